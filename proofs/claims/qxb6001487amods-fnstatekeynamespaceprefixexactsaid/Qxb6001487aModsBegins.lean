/-
  THE PROOF OF 'Rows.FnStateKeyNamespacePrefixExactSaid'. The frame is the guide's shell (proof-skeleton.mjs), but that the walk ends in 'Below' (the key's row may grow).
-/
import Derived.Test.Qxb6001487aModsCmp
import Derived.ProofKit
import Derived.OpenShut
import Derived.ShutString
namespace Go.Proofs.Qxb6001487aMods.fnStateKeyNamespacePrefixExact
open Go.ChangeShapes Go.WideShapes Go.ChangeAt Go.RowKit
open Go.ChangeMaps (open_string shut_string)
open Plain
set_option linter.unusedVariables false      -- a walk need not use every 'w<i>' (that an integer argument fits its kind)

theorem own : ownKnob Trym.prog.godebug = none := by kernel_rfl

/-- The bound on the total length: whatever it answers, it turns nothing. -/
theorem bound_any (a0 a1 a2 : ByteArray) (w0 : a0.size ≤ maxLen) (w1 : a1.size ≤ maxLen) (w2 : a2.size ≤ maxLen) (w : World) :
    Calls Trym.prog 14 #[.string a0, .string a1, .string a2] w fun e w' => ∃ b, e = .returned (.bool b) ∧ w' = w := by
  unfold maxLen at w0 w1 w2
  go_enter Trym.func14, Trym.ntmps14
  go_wp2
  all_goals (go_ret; exact ⟨_, rfl, rfl⟩)

theorem walk (a0 : ByteArray) (a1 : ByteArray) (a2 : ByteArray) (w0 : a0.size ≤ maxLen) (w1 : a1.size ≤ maxLen) (w2 : a2.size ≤ maxLen) (w : World) :
    Calls Trym.prog 6 #[.string a0, .string a1, .string a2] w fun e w' => e = .returned (.bool true) ∧ Below w.heap.size w w' := by
  have HB : Hid (∀ w : World, Calls Trym.prog 14 #[.string a0, .string a1, .string a2] w fun e w' => ∃ b, e = .returned (.bool b) ∧ w' = w) := bound_any a0 a1 a2 w0 w1 w2
  unfold maxLen at w0 w1 w2
  by_cases s0 : a0.size ≤ 65536
  · by_cases s1 : a1.size ≤ 65536
    · by_cases s2 : a2.size ≤ 65536
      · go_enter Trym.func6, Trym.ntmps6
        go_wp2_with fail
        refine (HB.out _).mono ?_
        rintro e w' ⟨b, rfl, rfl⟩
        cases b
        · go_wp2
          go_ret
          exact ⟨rfl, Below.refl _ _⟩
        · go_wp2_with fail
          refine (key_any a0 ⟨#[]⟩ _ s0 (by decide)).mono ?_
          rintro e w1 ⟨g1, c1, rfl, hg1, r1, hb1⟩
          have R1 : Hid (Row w1 g1 (skey a0.data.toList (ByteArray.mk #[]).data.toList)) := r1
          clear r1
          go_wp2_with fail
          refine (key_any a1 a2 _ s1 s2).mono ?_
          rintro e w2 ⟨g2, c2, rfl, hg2, r2, hb2⟩
          have R2 : Hid (Row w2 g2 (skey a1.data.toList a2.data.toList)) := r2
          clear r2
          go_wp2_with fail
          refine (begins_any g2 g1 c2 c1 _ _ _ (key_len a0 ⟨#[]⟩ s0 (by decide)) (key_len a1 a2 s1 s2) R2.out (R1.out.later hb2 hg1)).mono ?_
          rintro e w3 ⟨rfl, n, rfl⟩
          go_wp2
          go_ret
          refine ⟨ret_bool ?_, below_drewN (hb1.trans (hb2.mono hb1.size)) n⟩
          rw [pre_skey, ByteArray.toList_eq, ByteArray.toList_eq]
          simp
      · go_enter Trym.func6, Trym.ntmps6
        go_wp2_with fail
        refine (HB.out _).mono ?_
        rintro e w' ⟨b, rfl, rfl⟩
        cases b <;> (go_wp2; go_ret; exact ⟨rfl, Below.refl _ _⟩)
    · go_enter Trym.func6, Trym.ntmps6
      go_wp2_with fail
      refine (HB.out _).mono ?_
      rintro e w' ⟨b, rfl, rfl⟩
      cases b <;> (go_wp2; go_ret; exact ⟨rfl, Below.refl _ _⟩)
  · go_enter Trym.func6, Trym.ntmps6
    go_wp2_with fail
    refine (HB.out _).mono ?_
    rintro e w' ⟨b, rfl, rfl⟩
    cases b <;> (go_wp2; go_ret; exact ⟨rfl, Below.refl _ _⟩)

/-! ### THE ROW's STEP: WRITTEN OUT: LEAVE IT -/
set_option maxRecDepth 100000 in
theorem lifted (os : Os) (started : os.Started) (H : Type) (enc : TypeId × Value → H) :
    ReturnsInHanded {} Trym.checked os 6 .any (Rows.fnStateKeyNamespacePrefixExactSpec.pre6 enc Trym.prog Trym.f6 Rows.fnStateKeyNamespacePrefixExactRow.domain false) (Rows.fnStateKeyNamespacePrefixExactSpec.post enc Trym.prog Trym.f6 false true false false) := by
  refine returnsInHanded_of_change (C := Trym.checked) own started (by kernel_rfl) Trym.func6
    (ChangeSpec.witness6 (enc := enc) (C := Trym.checked) false ⟨#[], #[.string ByteArray.empty, .string ByteArray.empty, .string ByteArray.empty], []⟩ 8 (by kernel_rfl) (by kernel_rfl) (by kernel_rfl) (by kernel_rfl)) ?_
  intro W base args ds gs before hval0 hW hcnd _
  have hval : ∀ (j : Nat) t v, Trym.f6.params[j]? = some t → args[j]? = some v → Value.okWide Trym.prog W .any base t v := hval0
  have hW' := hW
  obtain ⟨p, q, hA0, hV, rfl, hfz, hnd⟩ := hW
  have hA : DataW.TrodAll enc Trym.prog W 0 (fun _ => true) true Trym.f6.params.toList args.toList ds p := hA0
  rw [Trym.params6] at hA hval
  obtain ⟨v0, vs0, d0, ds0, p0, q0, hargs, rfl, rfl, h0, r0⟩ := trodAll_cons hA
  obtain ⟨v1, vs1, d1, ds1, p1, q1, rfl, rfl, rfl, h1, r1⟩ := trodAll_cons r0
  obtain ⟨v2, vs2, d2, ds2, p2, q2, rfl, rfl, rfl, h2, r2⟩ := trodAll_cons r1
  obtain ⟨rfl, rfl, rfl⟩ := trodAll_nil r2
  obtain rfl : args = #[v0, v1, v2] := by cases args; simp_all
  obtain ⟨rfl, rfl⟩ := trodVars_none hV
  obtain ⟨a0, rfl, rfl, rfl, w0⟩ := open_string Trym.underlying9 (hval 0 9 v0 rfl rfl) h0
  obtain ⟨a1, rfl, rfl, rfl, w1⟩ := open_string Trym.underlying9 (hval 1 9 v1 rfl rfl) h1
  obtain ⟨a2, rfl, rfl, rfl, w2⟩ := open_string Trym.underlying9 (hval 2 9 v2 rfl rfl) h2
  clear hA0 hval0
  simp only [List.append_nil] at hW'
  refine (walk a0 a1 a2 w0 w1 w2 W).mono fun e W' ⟨he, bel⟩ => ?_
  subst he
  exact ⟨_, rfl, _, _, _, [], _, [], hW', trodAll_mk1 (shut_bool Trym.underlying4 _), (trodAll_cons_mk (shut_string Trym.underlying9 w0) (trodAll_cons_mk (shut_string Trym.underlying9 w1) (trodAll_cons_mk (shut_string Trym.underlying9 w2) trodAll_mk0))), rfl, bel.frame _, fun h => by cases h⟩

theorem over : Rows.fnStateKeyNamespacePrefixExactRow.holds Trym.pinned (OpenSpec.ofChange Rows.fnStateKeyNamespacePrefixExactSpec) :=
  OpenClaim.holds_of_wide 6 Trym.f6 rfl rfl rfl rfl rfl rfl rfl ⟨rfl, rfl, rfl, rfl, rfl⟩ rfl rfl rfl rfl rfl (by kernel_rfl) Trym.func6 (by kernel_rfl)
    (of_decide_eq_true (by kernel_rfl)) (by unfold Func.isWrapper; first | (rw [if_pos (by decide +kernel)]; kernel_rfl) | (rw [if_neg (by decide +kernel)]; exact ⟨rfl, rfl⟩))
    (fun os started H enc _ => lifted os started H enc)

/-- ████ THE STATEMENT ████ -/
theorem proved : Rows.FnStateKeyNamespacePrefixExactSaid :=
  over
end Go.Proofs.Qxb6001487aMods.fnStateKeyNamespacePrefixExact
