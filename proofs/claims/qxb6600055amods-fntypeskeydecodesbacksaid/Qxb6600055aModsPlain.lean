/-
  PLAIN LAWS (no Go in sight) for the seat Qxb6600055aMods: the key of a list of 16-bit numbers: of each its high byte, then its low byte.
-/
import GoSem.Op.String
namespace Go.Proofs.Qxb6600055aMods.Plain

/-- The key's bytes, as numbers. -/
def kn : List Int → List Int
  | [] => []
  | t :: ts => t / 256 :: t % 256 :: kn ts

/-- The key's bytes. -/
def kb (ts : List Int) : List UInt8 := (kn ts).map fun n => UInt8.ofNat n.toNat

/-- Every number is a 16-bit number. -/
def u16s (ts : List Int) : Prop := ∀ t ∈ ts, 0 ≤ t ∧ t ≤ 65535

/-- Comparison of two lists of numbers; a beginning comes first. -/
def cmpI : List Int → List Int → Int
  | [], [] => 0
  | [], _ :: _ => -1
  | _ :: _, [] => 1
  | a :: x, b :: y => if a < b then -1 else if b < a then 1 else cmpI x y

/-- The sign of Go's order of two strings. -/
def cmpT (x y : List UInt8) : Int := if Op.bytesLess x y then -1 else if !(Op.bytesLess x y || x == y) then 1 else 0

theorem kn_append (a b : List Int) : kn (a ++ b) = kn a ++ kn b := by
  induction a with
  | nil => rfl
  | cons t a ih => simp [kn, ih]

theorem kn_len (a : List Int) : (kn a).length = 2 * a.length := by
  induction a with
  | nil => rfl
  | cons t a ih => simp [kn, ih]; omega

theorem kb_append (a b : List Int) : kb (a ++ b) = kb a ++ kb b := by simp [kb, kn_append]

theorem kb_len (a : List Int) : (kb a).length = 2 * a.length := by simp [kb, kn_len]

theorem kb_cons (t : Int) (a : List Int) : kb (t :: a) = UInt8.ofNat (t / 256).toNat :: UInt8.ofNat (t % 256).toNat :: kb a := rfl

theorem u8_of {m n : Int} (hm : 0 ≤ m ∧ m ≤ 255) (hn : 0 ≤ n ∧ n ≤ 255) (h : UInt8.ofNat m.toNat = UInt8.ofNat n.toNat) : m = n := by
  have e := congrArg UInt8.toNat h
  simp only [UInt8.toNat_ofNat'] at e
  omega

theorem u8_lt {m n : Int} (hm : 0 ≤ m ∧ m ≤ 255) (hn : 0 ≤ n ∧ n ≤ 255) : UInt8.ofNat m.toNat < UInt8.ofNat n.toNat ↔ m < n := by
  rw [UInt8.lt_iff_toNat_lt]
  simp only [UInt8.toNat_ofNat']
  omega

theorem hi_lo {t : Int} (h : 0 ≤ t ∧ t ≤ 65535) : (0 ≤ t / 256 ∧ t / 256 ≤ 255) ∧ (0 ≤ t % 256 ∧ t % 256 ≤ 255) := by omega

/-- The key tells the list. -/
theorem kb_inj : ∀ (a b : List Int), u16s a → u16s b → kb a = kb b → a = b
  | [], [], _, _, _ => rfl
  | [], _ :: _, _, _, h => by simp [kb, kn] at h
  | _ :: _, [], _, _, h => by simp [kb, kn] at h
  | s :: a, t :: b, ha, hb, h => by
    have hs := hi_lo (ha s (by simp))
    have ht := hi_lo (hb t (by simp))
    rw [kb_cons, kb_cons] at h
    simp only [List.cons.injEq] at h
    have e1 := u8_of hs.1 ht.1 h.1
    have e2 := u8_of hs.2 ht.2 h.2.1
    have e3 := kb_inj a b (fun x hx => ha x (by simp [hx])) (fun x hx => hb x (by simp [hx])) h.2.2
    rw [e3, show s = t by omega]

/-- THE PLAIN LAW OF 'FnTypesKeyIsInjective'. -/
theorem kb_same (a b : List Int) (ha : u16s a) (hb : u16s b) : (kb a == kb b) = (a == b) := by
  by_cases h : a = b
  · simp [h]
  · have : kb a ≠ kb b := fun e => h (kb_inj a b ha hb e)
    rw [beq_false_of_ne this, beq_false_of_ne h]

theorem cmpT_cons (x y : UInt8) (a b : List UInt8) : cmpT (x :: a) (y :: b) = if x < y then -1 else if y < x then 1 else cmpT a b := by
  unfold cmpT
  simp only [Op.bytesLess]
  by_cases h1 : x < y
  · simp [h1]
  · by_cases h2 : y < x
    · have : x ≠ y := fun e => h1 (e ▸ h2)
      simp [h1, h2, this]
    · have : x = y := by
        rw [UInt8.lt_iff_toNat_lt] at h1 h2
        exact UInt8.toNat_inj.1 (by omega)
      subst this
      simp [h1]

/-- THE PLAIN LAW OF 'FnTypesKeyKeepsOrder'. -/
theorem kb_order : ∀ (a b : List Int), u16s a → u16s b → cmpT (kb a) (kb b) = cmpI a b
  | [], [], _, _ => by simp [kb, kn, cmpT, cmpI, Op.bytesLess]
  | [], _ :: _, _, _ => by simp [kb, kn, cmpT, cmpI, Op.bytesLess]
  | _ :: _, [], _, _ => by simp [kb, kn, cmpT, cmpI, Op.bytesLess]
  | s :: a, t :: b, ha, hb => by
    have hs := hi_lo (ha s (by simp))
    have ht := hi_lo (hb t (by simp))
    have ih := kb_order a b (fun x hx => ha x (by simp [hx])) (fun x hx => hb x (by simp [hx]))
    rw [kb_cons, kb_cons, cmpT_cons, cmpT_cons, ih]
    simp only [u8_lt hs.1 ht.1, u8_lt ht.1 hs.1, u8_lt hs.2 ht.2, u8_lt ht.2 hs.2, cmpI]
    by_cases h1 : s < t
    · by_cases g : s / 256 < t / 256
      · simp [h1, g]
      · have g1 : ¬ t / 256 < s / 256 := by omega
        have g2 : s % 256 < t % 256 := by omega
        simp [h1, g, g1, g2]
    · by_cases h2 : t < s
      · have g : ¬ s / 256 < t / 256 := by omega
        by_cases g1 : t / 256 < s / 256
        · simp [h1, h2, g, g1]
        · have g2 : t % 256 < s % 256 := by omega
          have g3 : ¬ s % 256 < t % 256 := by omega
          simp [h1, h2, g, g1, g2, g3]
      · have e : s = t := by omega
        subst e
        simp

theorem kn_at : ∀ (a : List Int) (i : Nat), i < a.length → (kn a).getD (2 * i) 0 = a.getD i 0 / 256 ∧ (kn a).getD (2 * i + 1) 0 = a.getD i 0 % 256
  | [], i, h => by simp at h
  | t :: a, 0, _ => by simp [kn]
  | t :: a, i + 1, h => by
    have ih := kn_at a i (by simpa using h)
    have e : 2 * (i + 1) = 2 * i + 1 + 1 := by omega
    rw [e]
    simpa [kn] using ih

end Go.Proofs.Qxb6600055aMods.Plain
