/-
  THE PROOF OF 'Rows.FnTypesKeyKeepsOrderSaid'. The frame is the guide's shell (proof-skeleton.mjs).
-/
import Derived.Test.Qxb6600055aModsCmp
import Derived.ProofKit
import Derived.OpenShut
import Derived.ShutString
import Derived.ChangeOld
import Derived.Below
namespace Go.Proofs.Qxb6600055aMods.fnTypesKeyKeepsOrder
open Go.ChangeShapes Go.WideShapes Go.ChangeAt Go.RowKit
open Go.ChangeMaps (open_string shut_string)
open Plain
set_option linter.unusedVariables false

theorem own : ownKnob Trym.prog.godebug = none := by kernel_rfl
theorem laidOut : laidOutB Trym.prog = true := by kernel_rfl

/-- WHAT THE WALK IS TOLD OF A SLICE OF INTEGERS THAT CAME IN: it is nil; or it leads to a row of 'cap' cells, the numbers 'zs' (the first 'len' are its elements, the rest its spare room), each fitting its kind. -/
def IsRow (k : IntKind) (w : World) (a : Option Addr) (len cap : Nat) (zs : List Int) : Prop :=
  (a = none ∧ len = 0 ∧ cap = 0 ∧ zs = []) ∨
  ∃ x, a = some x ∧ len ≤ cap ∧ cap ≤ maxLen ∧ zs.length = cap ∧ (∀ i, i < zs.length → w.cell? (x.add i) = some (.int k (zs.getD i 0))) ∧ ∀ n ∈ zs, (Lit.int k n).wf = true

/-- The bound on the total length: whatever it answers, it turns nothing. -/
theorem bound_any (a0 a1 : Option Addr) (n0 n1 c0 c1 : Nat) (h0 : n0 ≤ 9223372036854775807) (h1 : n1 ≤ 9223372036854775807) (w : World) :
    Calls Trym.prog 14 #[.slice a0 n0 c0, .slice a1 n1 c1] w fun e w' => ∃ b, e = .returned (.bool b) ∧ w' = w := by
  go_enter Trym.func14, Trym.ntmps14
  go_wp2
  all_goals (go_ret; exact ⟨_, rfl, rfl⟩)

/-- The walk, said of the elements. -/
theorem core (a0 : Option Addr) (c0 : Nat) (x : List Int) (a1 : Option Addr) (c1 : Nat) (y : List Int) (w : World) (lx : x.length ≤ 9223372036854775807) (ly : y.length ≤ 9223372036854775807)
    (ux : u16s x) (uy : u16s y) (hx : Holds w a0 x) (hy : Holds w a1 y) (nx : a0 = none → x = []) (ny : a1 = none → y = []) :
    Calls Trym.prog 5 #[.slice a0 x.length c0, .slice a1 y.length c1] w fun e w' => e = .returned (.bool true) ∧ Below w.heap.size w w' := by
  have HB : Hid (∀ w : World, Calls Trym.prog 14 #[.slice a0 x.length c0, .slice a1 y.length c1] w fun e w' => ∃ b, e = .returned (.bool b) ∧ w' = w) := bound_any a0 a1 _ _ c0 c1 lx ly
  obtain ⟨UX, UY, HX, HY, NX, NY⟩ : Hid (u16s x) ∧ Hid (u16s y) ∧ Hid (Holds w a0 x) ∧ Hid (Holds w a1 y) ∧ Hid (a0 = none → x = []) ∧ Hid (a1 = none → y = []) := ⟨ux, uy, hx, hy, nx, ny⟩
  clear ux uy hx hy nx ny
  by_cases s0 : x.length ≤ 65536
  · by_cases s1 : y.length ≤ 65536
    · go_enter Trym.func5, Trym.ntmps5
      go_wp2_with fail
      refine (HB.out _).mono ?_
      rintro e w' ⟨b, rfl, rfl⟩
      cases b
      · go_wp2
        go_ret
        exact ⟨rfl, Below.refl _ _⟩
      · go_wp2_with fail
        refine (clone_any a0 x c0 _ s0 HX.out NX.out).mono ?_
        rintro e w1 ⟨p0, d0, rfl, hp0, hb1, _⟩
        have P0 : Hid (Holds w1 p0 x) := hp0
        clear hp0
        go_wp2_with fail
        refine (clone_any a1 y c1 _ s1 (HY.out.later hb1 (Nat.le_refl _)) NY.out).mono ?_
        rintro e w2 ⟨p1, d1, rfl, hp1, hb2, _⟩
        have P1 : Hid (Holds w2 p1 y) := hp1
        clear hp1
        go_wp2_with fail
        refine (key_any p0 x d0 _ s0 UX.out (P0.out.later hb2 (Nat.le_refl _))).mono ?_
        rintro e w3 ⟨rfl, hb3⟩
        go_wp2_with fail
        refine (key_any p1 y d1 _ s1 UY.out (P1.out.later hb3 (Nat.le_refl _))).mono ?_
        rintro e w4 ⟨rfl, hb4⟩
        have hq0 : Hid (Holds w4 p0 x) := ((P0.out.later hb2 (Nat.le_refl _)).later hb3 (Nat.le_refl _)).later hb4 (Nat.le_refl _)
        have hq1 : Hid (Holds w4 p1 y) := (P1.out.later hb3 (Nat.le_refl _)).later hb4 (Nat.le_refl _)
        have hb : Below w'.heap.size w' w4 := ((hb1.trans (hb2.mono hb1.size)).trans (hb3.mono (Nat.le_trans hb1.size hb2.size))).trans (hb4.mono (Nat.le_trans hb1.size (Nat.le_trans hb2.size hb3.size)))
        clear hb1 hb2 hb3 hb4
        go_wp2_with fail
        refine (text_any _ _ _).mono ?_
        rintro e w5 ⟨rfl, hw5⟩
        subst hw5
        go_wp2_with fail
        refine (compare_any p0 p1 d0 d1 x y _ s0 s1 hq0.out hq1.out).mono ?_
        rintro e w6 ⟨rfl, n, rfl⟩
        go_wp2
        go_ret
        refine ⟨ret_bool ?_, below_drewN hb n⟩
        rw [ByteArray.toList_eq, ByteArray.toList_eq, strOfNums_data, strOfNums_data]
        have := kb_order x y UX.out UY.out
        unfold kb at this
        rw [this]
        simp
    · go_enter Trym.func5, Trym.ntmps5
      go_wp2_with fail
      refine (HB.out _).mono ?_
      rintro e w' ⟨b, rfl, rfl⟩
      cases b <;> (go_wp2; go_ret; exact ⟨rfl, Below.refl _ _⟩)
  · go_enter Trym.func5, Trym.ntmps5
    go_wp2_with fail
    refine (HB.out _).mono ?_
    rintro e w' ⟨b, rfl, rfl⟩
    cases b <;> (go_wp2; go_ret; exact ⟨rfl, Below.refl _ _⟩)

theorem walk (a0 : Option Addr) (len0 cap0 : Nat) (z0 : List Int) (a1 : Option Addr) (len1 cap1 : Nat) (z1 : List Int) (w : World) (w0 : IsRow .u16 w a0 len0 cap0 z0) (w1 : IsRow .u16 w a1 len1 cap1 z1) :
    Calls Trym.prog 5 #[.slice a0 len0 cap0, .slice a1 len1 cap1] w fun e w' => e = .returned (.bool true) ∧ Below w.heap.size w w' := by
  obtain ⟨x, rfl, lx, ux, hx, nx⟩ := holds_of w0
  obtain ⟨y, rfl, ly, uy, hy, ny⟩ := holds_of w1
  exact core a0 cap0 x a1 cap1 y w lx ly ux uy hx hy nx ny

/-! ### THE ROW's STEP: WRITTEN OUT: LEAVE IT -/
set_option maxRecDepth 100000 in
theorem lifted (os : Os) (started : os.Started) (H : Type) (enc : TypeId × Value → H) :
    ReturnsInHanded {} Trym.checked os 5 .any (Rows.fnTypesKeyKeepsOrderSpec.pre6 enc Trym.prog Trym.f5 Rows.fnTypesKeyKeepsOrderRow.domain false) (Rows.fnTypesKeyKeepsOrderSpec.post enc Trym.prog Trym.f5 false true false false) := by
  refine returnsInHanded_of_change (C := Trym.checked) own started (by kernel_rfl) Trym.func5
    (ChangeSpec.witness6 (enc := enc) (C := Trym.checked) false ⟨#[], #[.slice none 0 0, .slice none 0 0], []⟩ 8 (by kernel_rfl) (by kernel_rfl) (by kernel_rfl) (by kernel_rfl)) ?_
  intro W base args ds gs before hval0 hW hcnd _
  have hval : ∀ (j : Nat) t v, Trym.f5.params[j]? = some t → args[j]? = some v → Value.okWide Trym.prog W .any base t v := hval0
  have hW' := hW
  obtain ⟨p, q, hA0, hV, rfl, hfz, hnd⟩ := hW
  have hA : DataW.TrodAll enc Trym.prog W 0 (fun _ => true) true Trym.f5.params.toList args.toList ds p := hA0
  rw [Trym.params5] at hA hval
  obtain ⟨v0, vs0, d0, ds0, p0, q0, hargs, rfl, rfl, h0, r0⟩ := trodAll_cons hA
  obtain ⟨v1, vs1, d1, ds1, p1, q1, rfl, rfl, rfl, h1, r1⟩ := trodAll_cons r0
  obtain ⟨rfl, rfl, rfl⟩ := trodAll_nil r1
  obtain rfl : args = #[v0, v1] := by cases args; simp_all
  obtain ⟨rfl, rfl⟩ := trodVars_none hV
  obtain ⟨a0, len0, cap0, rfl⟩ := okWide_slice Trym.underlying22 (hval 0 22 v0 rfl rfl)
  have k0 := h0
  have lt0 : ∀ x ∈ p0, x.block < W.heap.size := by obtain ⟨m, hm⟩ := k0; exact DataW.trod_lt m _ _ _ hm
  obtain ⟨z0, w0⟩ : ∃ zs, IsRow .u16 W a0 len0 cap0 zs := by
    obtain ⟨fuel, hf⟩ := h0
    rcases open_ints Trym.underlying22 Trym.underlying27 (by kernel_rfl) hf with ⟨hcs, _⟩ | ⟨x, l, c, zs, hcs, _, hl, hm, hz, _, hcell, hwz⟩
    · simp [Value.cells] at hcs
      obtain ⟨rfl, rfl, rfl⟩ := hcs
      exact ⟨[], .inl ⟨rfl, rfl, rfl, rfl⟩⟩
    · simp [Value.cells] at hcs
      obtain ⟨rfl, rfl, rfl⟩ := hcs
      exact ⟨zs, .inr ⟨_, rfl, hl, hm, by simpa using hz, hcell, hwz⟩⟩
  obtain ⟨a1, len1, cap1, rfl⟩ := okWide_slice Trym.underlying22 (hval 1 22 v1 rfl rfl)
  have k1 := h1
  have lt1 : ∀ x ∈ p1, x.block < W.heap.size := by obtain ⟨m, hm⟩ := k1; exact DataW.trod_lt m _ _ _ hm
  obtain ⟨z1, w1⟩ : ∃ zs, IsRow .u16 W a1 len1 cap1 zs := by
    obtain ⟨fuel, hf⟩ := h1
    rcases open_ints Trym.underlying22 Trym.underlying27 (by kernel_rfl) hf with ⟨hcs, _⟩ | ⟨x, l, c, zs, hcs, _, hl, hm, hz, _, hcell, hwz⟩
    · simp [Value.cells] at hcs
      obtain ⟨rfl, rfl, rfl⟩ := hcs
      exact ⟨[], .inl ⟨rfl, rfl, rfl, rfl⟩⟩
    · simp [Value.cells] at hcs
      obtain ⟨rfl, rfl, rfl⟩ := hcs
      exact ⟨zs, .inr ⟨_, rfl, hl, hm, by simpa using hz, hcell, hwz⟩⟩
  clear hA0 hval0
  refine (walk a0 len0 cap0 z0 a1 len1 cap1 z1 W w0 w1).mono fun e W' ⟨he, bel⟩ => ?_
  subst he
  exact ⟨_, rfl, _, _, _, [], _, [], hW', trodAll_mk1 (shut_bool Trym.underlying4 _), (trodAll_cons_mk (Below.trod laidOut (by kernel_rfl) (of_decide_eq_true (by kernel_rfl)) k0 bel lt0) (trodAll_cons_mk (Below.trod laidOut (by kernel_rfl) (of_decide_eq_true (by kernel_rfl)) k1 bel lt1) trodAll_mk0)), rfl, bel.frame _, fun h => by cases h⟩

theorem over : Rows.fnTypesKeyKeepsOrderRow.holds Trym.pinned (OpenSpec.ofChange Rows.fnTypesKeyKeepsOrderSpec) :=
  OpenClaim.holds_of_wide 5 Trym.f5 rfl rfl rfl rfl rfl rfl rfl ⟨rfl, rfl, rfl, rfl, rfl⟩ rfl rfl rfl rfl rfl (by kernel_rfl) Trym.func5 (by kernel_rfl)
    (of_decide_eq_true (by kernel_rfl)) (by unfold Func.isWrapper; first | (rw [if_pos (by decide +kernel)]; kernel_rfl) | (rw [if_neg (by decide +kernel)]; exact ⟨rfl, rfl⟩))
    (fun os started H enc _ => lifted os started H enc)

/-- ████ THE STATEMENT ████ -/
theorem proved : Rows.FnTypesKeyKeepsOrderSaid := over
end Go.Proofs.Qxb6600055aMods.fnTypesKeyKeepsOrder
