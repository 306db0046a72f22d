/-
  PLAIN LAWS (no Go in sight) for the seat Qxb6001487aMods: a state key is the namespace with each zero byte written 0 255, then 0 1, then the key.
-/
import GoSem.Op.String
namespace Go.Proofs.Qxb6001487aMods.Plain

/-- The namespace, each zero byte written as 0 255. -/
def esc : List UInt8 → List UInt8
  | [] => []
  | c :: cs => if c = 0 then 0 :: 255 :: esc cs else c :: esc cs

/-- The state key. -/
def skey (ns key : List UInt8) : List UInt8 := esc ns ++ (0 :: 1 :: key)

/-- Bytewise comparison. -/
def cmp : List UInt8 → List UInt8 → Int
  | [], [] => 0
  | [], _ :: _ => -1
  | _ :: _, [] => 1
  | a :: x, b :: y => if a < b then -1 else if b < a then 1 else cmp x y

/-- Is the first a beginning of the second? -/
def pre : List UInt8 → List UInt8 → Bool
  | [], _ => true
  | _ :: _, [] => false
  | a :: x, b :: y => if a = b then pre x y else false

/-- What the law's text wants: by namespace, then by key. -/
def want (n1 k1 n2 k2 : List UInt8) : Int :=
  if Op.bytesLess n1 n2 then -1 else if !(Op.bytesLess n1 n2 || n1 == n2) then 1 else if Op.bytesLess k1 k2 then -1 else if !(Op.bytesLess k1 k2 || k1 == k2) then 1 else 0

theorem esc_snoc (l : List UInt8) (c : UInt8) : esc (l ++ [c]) = esc l ++ (if c = 0 then [0, 255] else [c]) := by
  induction l with
  | nil => simp [esc]
  | cons d l ih =>
    simp only [List.cons_append, esc, ih]
    by_cases h : d = 0 <;> simp [h]

theorem esc_len (l : List UInt8) : (esc l).length ≤ 2 * l.length := by
  induction l with
  | nil => simp [esc]
  | cons d l ih =>
    simp only [esc]
    by_cases h : d = 0 <;> simp [h] <;> omega

theorem skey_len (ns key : List UInt8) : (skey ns key).length ≤ 2 * ns.length + 2 + key.length := by
  have := esc_len ns
  simp [skey]; omega

theorem u8_pos {c : UInt8} (h : c ≠ 0) : (0 : UInt8) < c := by
  rw [UInt8.lt_iff_toNat_lt]
  have : c.toNat ≠ 0 := fun e => h (UInt8.toNat_inj.1 (by simpa using e))
  simp; omega

theorem u8_not_lt_zero (c : UInt8) : ¬ c < 0 := by rw [UInt8.lt_iff_toNat_lt]; simp

theorem u8_tri {a b : UInt8} (h1 : ¬ a < b) (h2 : ¬ b < a) : a = b := by
  rw [UInt8.lt_iff_toNat_lt] at h1 h2
  exact UInt8.toNat_inj.1 (by omega)

theorem u8_irrefl (a : UInt8) : ¬ a < a := by rw [UInt8.lt_iff_toNat_lt]; omega

theorem u8_asymm {a b : UInt8} (h : a < b) : ¬ b < a := by rw [UInt8.lt_iff_toNat_lt] at *; omega

theorem cmp_same (x : List UInt8) : cmp x x = 0 := by
  induction x with
  | nil => rfl
  | cons a x ih => simp [cmp, ih]

/-- 'cmp' against Go's order on strings. -/
theorem cmp_less : ∀ (x y : List UInt8), cmp x y = if Op.bytesLess x y then -1 else if !(Op.bytesLess x y || x == y) then 1 else 0
  | [], [] => by simp [cmp, Op.bytesLess]
  | [], _ :: _ => by simp [cmp, Op.bytesLess]
  | _ :: _, [] => by simp [cmp, Op.bytesLess]
  | a :: x, b :: y => by
    have ih := cmp_less x y
    simp only [cmp, Op.bytesLess]
    by_cases h1 : a < b
    · simp [h1]
    · by_cases h2 : b < a
      · have : a ≠ b := fun e => u8_irrefl a (e ▸ h2)
        simp [h1, h2, this]
      · have := u8_tri h1 h2
        subst this
        simp [ih]

/-- State keys compare as the namespaces do, then as the keys do. -/
theorem cmp_skey (k1 k2 : List UInt8) : ∀ (n1 n2 : List UInt8), cmp (skey n1 k1) (skey n2 k2) = if cmp n1 n2 = 0 then cmp k1 k2 else cmp n1 n2
  | [], [] => by simp [skey, esc, cmp]
  | [], d :: n2 => by
    by_cases h : d = 0
    · simp [skey, esc, cmp, h]
    · have := u8_pos h
      simp [skey, esc, cmp, h, this]
  | c :: n1, [] => by
    by_cases h : c = 0
    · simp [skey, esc, cmp, h]
    · have := u8_pos h
      simp [skey, esc, cmp, h, this]
  | c :: n1, d :: n2 => by
    have ih := cmp_skey k1 k2 n1 n2
    unfold skey at ih
    by_cases hc : c = 0
    · by_cases hd : d = 0
      · subst hc hd
        simp [skey, esc, cmp, ih]
      · have := u8_pos hd
        subst hc
        simp [skey, esc, cmp, hd, this]
    · by_cases hd : d = 0
      · have := u8_pos hc
        subst hd
        simp [skey, esc, cmp, hc, this]
      · simp only [skey, esc, hc, hd, if_false, List.cons_append, cmp]
        by_cases h1 : c < d
        · simp [h1]
        · by_cases h2 : d < c
          · simp [h1, h2]
          · simp [h1, h2, ih]

/-- THE PLAIN LAW OF 'FnStateKeyOrderMatchesPairs'. -/
theorem order_pairs (n1 k1 n2 k2 : List UInt8) : cmp (skey n1 k1) (skey n2 k2) = want n1 k1 n2 k2 := by
  rw [cmp_skey, cmp_less n1 n2, cmp_less k1 k2]
  unfold want
  by_cases h1 : Op.bytesLess n1 n2 = true
  · simp [h1]
  · by_cases h2 : n1 = n2
    · subst h2; simp [h1]
    · simp [h1, h2]

/-- THE PLAIN LAW OF 'FnStateKeyNamespacePrefixExact'. -/
theorem pre_skey (k2 : List UInt8) : ∀ (n1 n2 : List UInt8), pre (skey n1 []) (skey n2 k2) = (n1 == n2)
  | [], [] => by simp [skey, esc, pre]
  | [], d :: n2 => by
    by_cases h : d = 0
    · simp [skey, esc, pre, h]
    · simp [skey, esc, pre, h, Ne.symm h]
  | c :: n1, [] => by
    by_cases h : c = 0
    · simp [skey, esc, pre, h]
    · simp [skey, esc, pre, h]
  | c :: n1, d :: n2 => by
    have ih := pre_skey k2 n1 n2
    unfold skey at ih
    by_cases hc : c = 0
    · by_cases hd : d = 0
      · subst hc hd
        simp [skey, esc, pre, ih]
      · subst hc
        simp [skey, esc, pre, hd, Ne.symm hd]
    · by_cases hd : d = 0
      · subst hd
        simp [skey, esc, pre, hc]
      · simp only [skey, esc, hc, hd, if_false, List.cons_append, pre, ih]
        by_cases h1 : c = d
        · simp [h1]
        · simp [h1]

end Go.Proofs.Qxb6001487aMods.Plain
