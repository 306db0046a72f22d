/-
  HELPERS for the law FnTypesKeyDecodesBack: the bound, the key's bytes at a place, the two halves of a slice.
-/
import Derived.Test.Qxb6600055aModsCmp
namespace Go.Proofs.Qxb6600055aMods.fnTypesKeyDecodesBack
open Go.RowKit Plain

/-- The bound on the total length: whatever it answers, it turns nothing. -/
theorem bound_any (a0 : Option Addr) (n0 c0 : Nat) (h0 : n0 ≤ 9223372036854775807) (w : World) :
    Calls Trym.prog 13 #[.slice a0 n0 c0] w fun e w' => ∃ b, e = .returned (.bool b) ∧ w' = w := by
  go_enter Trym.func13, Trym.ntmps13
  go_wp2
  all_goals (go_ret; exact ⟨_, rfl, rfl⟩)

/-- The key's bytes at a number's place. -/
theorem key_bytes (x : List Int) (ux : u16s x) (s : ByteArray) (hs : s = strOfNums (kn x)) (k : Nat) (hk : k < x.length) :
    ∃ p q : Int, 0 ≤ p ∧ p ≤ 255 ∧ 0 ≤ q ∧ q ≤ 255 ∧ x.getD k 0 = p * 256 + q ∧ (∀ h : 2 * k < s.size, ((s[2 * k]'h).toNat : Int) = p) ∧ (∀ h : 2 * k + 1 < s.size, ((s[2 * k + 1]'h).toNat : Int) = q) := by
  have hb : 0 ≤ x.getD k 0 ∧ x.getD k 0 ≤ 65535 := ux _ (by simp [List.getD, List.getElem?_eq_getElem hk])
  have hat := kn_at x k hk
  have hl := kn_len x
  refine ⟨x.getD k 0 / 256, x.getD k 0 % 256, by omega, by omega, by omega, by omega, by omega, ?_, ?_⟩
  · intro h
    subst hs
    have e : (strOfNums (kn x))[2 * k] = UInt8.ofNat ((kn x).getD (2 * k) 0).toNat := by
      show (strOfNums (kn x)).data[2 * k] = _
      simp [strOfNums, List.getD, List.getElem?_eq_getElem (show 2 * k < (kn x).length by omega)]
    rw [e, hat.1, UInt8.toNat_ofNat']
    omega
  · intro h
    subst hs
    have e : (strOfNums (kn x))[2 * k + 1] = UInt8.ofNat ((kn x).getD (2 * k + 1) 0).toNat := by
      show (strOfNums (kn x)).data[2 * k + 1] = _
      simp [strOfNums, List.getD, List.getElem?_eq_getElem (show 2 * k + 1 < (kn x).length by omega)]
    rw [e, hat.2, UInt8.toNat_ofNat']
    omega

theorem or_join (p q : Int) (hp0 : 0 ≤ p) (hp1 : p ≤ 255) (hq0 : 0 ≤ q) (hq1 : q ≤ 255) : bits BinOp.or IntKind.u16 (p * 256) q = p * 256 + q := by
  rw [u16_or _ _ (by omega) (by omega) (by omega) (by omega)]
  have e := Nat.two_pow_add_eq_or_of_lt (i := 8) (b := q.toNat) (by omega) p.toNat
  rw [show (p * 256).toNat = 2 ^ 8 * p.toNat by omega, ← e]
  omega

theorem elem22 : Trym.prog.elem 22 = 27 := by kernel_rfl
theorem under22 : Trym.prog.underlying 22 = some (.slice (Trym.prog.elem 22)) := by rw [elem22]; exact Trym.underlying22
theorem size27 (w : World) : (sizeOf (Trym.prog.elem 22)).run Trym.prog w = .ok 1 w := by
  obtain ⟨i0, hi, _, hz1, _⟩ := info_parts Trym.info27
  rw [elem22]
  simp [sizeOf, typeInfo, hi, hz1]

/-- 'a[:h]' and 'a[h:]', whatever a is: what they give, and what they hold. -/
theorem cut_runs (a : Option Addr) (d : Nat) (x : List Int) (h : Nat) (w2 : World) (hh : h ≤ x.length) (hd : x.length ≤ d) (H : Holds w2 a x) :
    ∃ q0 q1 : Option Addr,
      (∀ w : World, (Instr.slice 22 (.slice a x.length d) none (some (.int .i64 (h : Int))) none).run Trym.prog w = .ok (.slice q0 h d) w) ∧
      (∀ w : World, (Instr.slice 22 (.slice a x.length d) (some (.int .i64 (h : Int))) none none).run Trym.prog w = .ok (.slice q1 (x.length - h) (d - h)) w) ∧
      Holds w2 q0 (x.take h) ∧ Holds w2 q1 (x.drop h) := by
  refine ⟨if d = 0 then a else a.map (·.add 0), if d = h then a else a.map (·.add h), ?_, ?_, ?_, ?_⟩
  · intro w
    rw [run_slice_h w 22 a x.length d under22 .i64 h (by omega) (by omega), size27]
    simp [Result.andThen, sliced]
  · intro w
    rw [run_slice_l w 22 a x.length d under22 .i64 h (by omega) (by omega), size27]
    simp [Result.andThen, sliced]
  · intro i hi
    have hi' : i < h := by rw [List.length_take] at hi; omega
    obtain ⟨b, off, rfl, hb, hc⟩ := H i (by omega)
    refine ⟨b, off, ?_, hb, ?_⟩
    · by_cases e : d = 0 <;> simp [e, Addr.add]
    · rw [hc]; simp [List.getD, hi']
  · intro i hi
    have hi' : h + i < x.length := by rw [List.length_drop] at hi; omega
    obtain ⟨b, off, rfl, hb, hc⟩ := H (h + i) hi'
    refine ⟨b, off + h, ?_, hb, ?_⟩
    · rw [if_neg (by omega)]; simp [Addr.add]
    · rw [Nat.add_assoc, hc]; simp [List.getD]

/-- The keys of two halves, laid end to end, are the key of the whole. -/
theorem halves (x : List Int) (h : Nat) : strOfNums (kn (x.take h)) ++ strOfNums (kn (x.drop h)) = strOfNums (kn x) := by
  have e : kn x = kn (x.take h) ++ kn (x.drop h) := by rw [← kn_append, List.take_append_drop]
  rw [e]
  unfold strOfNums
  rw [ByteArray.mk_append_mk, List.map_append]

theorem key_at (a : Option Addr) (xs : List Int) (n c : Nat) (w0 : World) (hn : n = xs.length) (hl : xs.length ≤ 65536) (hu : u16s xs) (h : Holds w0 a xs) (s : ByteArray) (hs : s = strOfNums (kn xs)) :
    ∀ w : World, Below w0.heap.size w0 w → Calls Trym.prog 11 #[.slice a n c] w fun e w' => e = .returned (.string s) ∧ Below w0.heap.size w0 w' := by
  intro w hb
  subst hn hs
  exact (key_any a xs c w hl hu (h.later hb (Nat.le_refl _))).mono fun e w' ⟨he, hb'⟩ => ⟨he, hb.trans (hb'.mono hb.size)⟩

end Go.Proofs.Qxb6600055aMods.fnTypesKeyDecodesBack
