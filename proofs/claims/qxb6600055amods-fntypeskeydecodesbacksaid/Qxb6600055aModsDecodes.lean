/-
  THE PROOF OF 'Rows.FnTypesKeyDecodesBackSaid'. The frame is the guide's shell (proof-skeleton.mjs).
-/
import Derived.Test.Qxb6600055aModsHalf
import Derived.ProofKit
import Derived.Deep.RegionWith
import Derived.OpenShut
import Derived.ShutString
import Derived.ChangeOld
import Derived.Below
namespace Go.Proofs.Qxb6600055aMods.fnTypesKeyDecodesBack
open Go.ChangeShapes Go.WideShapes Go.ChangeAt Go.RowKit
open Go.ChangeMaps (open_string shut_string)
open Plain
set_option linter.unusedVariables false

theorem own : ownKnob Trym.prog.godebug = none := by kernel_rfl
theorem laidOut : laidOutB Trym.prog = true := by kernel_rfl

/-- WHAT THE WALK IS TOLD OF A SLICE OF INTEGERS THAT CAME IN: it is nil; or it leads to a row of 'cap' cells, the numbers 'zs' (the first 'len' are its elements, the rest its spare room), each fitting its kind. -/
def IsRow (k : IntKind) (w : World) (a : Option Addr) (len cap : Nat) (zs : List Int) : Prop :=
  (a = none ∧ len = 0 ∧ cap = 0 ∧ zs = []) ∨
  ∃ x, a = some x ∧ len ≤ cap ∧ cap ≤ maxLen ∧ zs.length = cap ∧ (∀ i, i < zs.length → w.cell? (x.add i) = some (.int k (zs.getD i 0))) ∧ ∀ n ∈ zs, (Lit.int k n).wf = true

/-- The walk, said of the elements. -/
theorem core (a0 : Option Addr) (c0 : Nat) (x : List Int) (w : World) (lx : x.length ≤ 9223372036854775807) 
    (ux : u16s x) (hx : Holds w a0 x) (nx : a0 = none → x = []) :
    Calls Trym.prog 4 #[.slice a0 x.length c0] w fun e w' => e = .returned (.bool true) ∧ Below w.heap.size w w' := by
  have HB : Hid (∀ w : World, Calls Trym.prog 13 #[.slice a0 x.length c0] w fun e w' => ∃ b, e = .returned (.bool b) ∧ w' = w) := bound_any a0 _ c0 lx
  obtain ⟨UX, HX, NX⟩ : Hid (u16s x) ∧ Hid (Holds w a0 x) ∧ Hid (a0 = none → x = []) := ⟨ux, hx, nx⟩
  clear ux hx nx
  by_cases s0 : x.length ≤ 65536
  · go_enter Trym.func4, Trym.ntmps4
    go_wp2_with fail
    refine (HB.out _).mono ?_
    rintro e w' ⟨b, rfl, rfl⟩
    cases b
    · go_wp2
      go_ret
      exact ⟨rfl, Below.refl _ _⟩
    · go_wp2_with fail
      refine (clone_any a0 x c0 _ s0 HX.out NX.out).mono ?_
      rintro e w1 ⟨p0, d0, rfl, hp0, hb1, hsh⟩
      have P0 : Hid (Holds w1 p0 x) := hp0
      have SH : Hid ((p0 = none ∧ d0 = 0 ∧ x = []) ∨ ∃ g, p0 = some ⟨g, 0, none⟩ ∧ d0 = x.length) := hsh
      clear hp0 hsh
      go_wp2_with fail
      refine (key_any p0 x d0 _ s0 UX.out P0.out).mono ?_
      rintro e w2 ⟨he, hb2⟩
      obtain ⟨s, hs⟩ : ∃ s, s = strOfNums (kn x) := ⟨_, rfl⟩
      rw [← hs] at he
      subst he
      have hsz : s.size = 2 * x.length := by rw [hs, strOfNums_size, kn_len]
      have z1 : (s.size : Int) ≤ 2 * x.length := by omega
      have z2 : 2 * (x.length : Int) ≤ s.size := by omega
      have HS : Hid (s = strOfNums (kn x)) := hs
      clear hs hsz
      have P2 : Hid (Holds w2 p0 x) := P0.out.later hb2 (Nat.le_refl _)
      have hb : Below w'.heap.size w' w2 := hb1.trans (hb2.mono hb1.size)
      clear P0 hb1 hb2
      go_wp2
      go_loopw [4] (fun i wr => ∃ k : Nat, k ≤ x.length ∧ i = .int .i64 k ∧ ∃ n, wr = w2.drewN n) (fun i _ => x.length - (intOf i).toNat)
      case atStart => exact ⟨0, Nat.zero_le _, rfl, 0, rfl⟩
      case round =>
        obtain ⟨k, hk, rfl, n, rfl⟩ := hrel
        by_cases hlt : k < x.length
        · have hlx : (k : Int) < x.length := by omega
          obtain ⟨b1, o1, rfl, _, e1⟩ := P2.out k hlt
          obtain ⟨p, q, hp0, hp1, hq0, hq1, ht, B1, B2⟩ := key_bytes x UX.out s HS.out k hlt
          have i1 : 2 * (k : Int) < s.size := by omega
          have i2 : 2 * (k : Int) + 1 < s.size := by omega
          rw [ht] at e1
          clear ht
          have r1 : ∀ w : World, (Instr.index 9 (.string s) (.int .i64 (2 * (k : Int)))).run Trym.prog w = .ok (.int .u8 p) w := by
            intro w
            rw [run_index_string w 9 s .i64 _ Trym.underlying9, dif_pos ⟨by omega, i1⟩]
            exact congrArg (fun n => Result.ok (Value.int .u8 n) w) (B1 (by omega))
          have r2 : ∀ w : World, (Instr.index 9 (.string s) (.int .i64 (2 * (k : Int) + 1))).run Trym.prog w = .ok (.int .u8 q) w := by
            intro w
            rw [run_index_string w 9 s .i64 _ Trym.underlying9, dif_pos ⟨by omega, i2⟩]
            exact congrArg (fun n => Result.ok (Value.int .u8 n) w) (B2 (by omega))
          clear B1 B2
          go_wp2
          go_quiet (fail)
          have hor : (bits BinOp.or IntKind.u16 (p * 256) q != p * 256 + q) = false := by rw [or_join p q hp0 hp1 hq0 hq1]; simp
          go_wp2
          go_roundw
          case rel => exact ⟨k + 1, by omega, by go_num, _, rfl⟩
          case measure => simp [intOf]; omega
        · go_wp2
          obtain ⟨h, hh⟩ : ∃ h : Nat, h = x.length / 2 := ⟨_, rfl⟩
          have e2 : (x.length : Int) / 2 = (h : Int) := by omega
          rw [e2]
          have h0 : h ≤ x.length := by omega
          have hd : x.length ≤ d0 := by
            rcases SH.out with ⟨_, _, e⟩ | ⟨_, _, e⟩
            · rw [e]; simp
            · omega
          clear e2 hh
          obtain ⟨q0, q1, rA, rB, h1, h2⟩ := cut_runs p0 d0 x h w2 h0 hd P2.out
          have l1 : (x.take h).length = h := by rw [List.length_take]; omega
          have l2 : (x.drop h).length = x.length - h := List.length_drop
          obtain ⟨s1, hs1⟩ : ∃ s1, s1 = strOfNums (kn (x.take h)) := ⟨_, rfl⟩
          obtain ⟨s2, hs2⟩ : ∃ s2, s2 = strOfNums (kn (x.drop h)) := ⟨_, rfl⟩
          have z3 : (s1.size : Int) ≤ 200000 := by rw [hs1, strOfNums_size, kn_len]; omega
          have z4 : (s2.size : Int) ≤ 200000 := by rw [hs2, strOfNums_size, kn_len]; omega
          have HE : Hid (s1 ++ s2 = s) := by unfold Hid; rw [HS.out, hs1, hs2]; exact halves x h
          have K1 : Hid (∀ w : World, Below w2.heap.size w2 w → Calls Trym.prog 11 #[.slice q0 h d0] w fun e w' => e = .returned (.string s1) ∧ Below w2.heap.size w2 w') :=
            key_at q0 (x.take h) h d0 w2 l1.symm (by omega) (fun t ht => UX.out t (List.mem_of_mem_take ht)) h1 s1 hs1
          have K2 : Hid (∀ w : World, Below w2.heap.size w2 w → Calls Trym.prog 11 #[.slice q1 (x.length - h) (d0 - h)] w fun e w' => e = .returned (.string s2) ∧ Below w2.heap.size w2 w') :=
            key_at q1 (x.drop h) (x.length - h) (d0 - h) w2 l2.symm (by omega) (fun t ht => UX.out t (List.mem_of_mem_drop ht)) h2 s2 hs2
          clear l1 l2 hs1 hs2 h1 h2 P2 SH HX UX NX
          go_region_with (first | (go_at_call_of 11 (Value.slice q0 h d0); refine (K1.out _ ?_).mono ?_; exact below_drewN (Below.refl _ _) _; rintro e w3 ⟨rfl, hb3⟩) | (go_at_call_of 11 (Value.slice q1 (x.length - h) (d0 - h)); refine (K2.out _ ?_).mono ?_; assumption; rintro e w4 ⟨rfl, hb4⟩))
          go_wp2
          go_ret
          refine ⟨ret_bool ?_, hb.trans (Below.mono (by assumption) hb.size)⟩
          rw [HE.out]
          simp
  · go_enter Trym.func4, Trym.ntmps4
    go_wp2_with fail
    refine (HB.out _).mono ?_
    rintro e w' ⟨b, rfl, rfl⟩
    cases b <;> (go_wp2; go_ret; exact ⟨rfl, Below.refl _ _⟩)

theorem walk (a0 : Option Addr) (len0 cap0 : Nat) (z0 : List Int) (w : World) (w0 : IsRow .u16 w a0 len0 cap0 z0) :
    Calls Trym.prog 4 #[.slice a0 len0 cap0] w fun e w' => e = .returned (.bool true) ∧ Below w.heap.size w w' := by
  obtain ⟨x, rfl, lx, ux, hx, nx⟩ := holds_of w0
  exact core a0 cap0 x w lx ux hx nx

/-! ### THE ROW's STEP: WRITTEN OUT: LEAVE IT -/
set_option maxRecDepth 100000 in
theorem lifted (os : Os) (started : os.Started) (H : Type) (enc : TypeId × Value → H) :
    ReturnsInHanded {} Trym.checked os 4 .any (Rows.fnTypesKeyDecodesBackSpec.pre6 enc Trym.prog Trym.f4 Rows.fnTypesKeyDecodesBackRow.domain false) (Rows.fnTypesKeyDecodesBackSpec.post enc Trym.prog Trym.f4 false true false false) := by
  refine returnsInHanded_of_change (C := Trym.checked) own started (by kernel_rfl) Trym.func4
    (ChangeSpec.witness6 (enc := enc) (C := Trym.checked) false ⟨#[], #[.slice none 0 0], []⟩ 8 (by kernel_rfl) (by kernel_rfl) (by kernel_rfl) (by kernel_rfl)) ?_
  intro W base args ds gs before hval0 hW hcnd _
  have hval : ∀ (j : Nat) t v, Trym.f4.params[j]? = some t → args[j]? = some v → Value.okWide Trym.prog W .any base t v := hval0
  have hW' := hW
  obtain ⟨p, q, hA0, hV, rfl, hfz, hnd⟩ := hW
  have hA : DataW.TrodAll enc Trym.prog W 0 (fun _ => true) true Trym.f4.params.toList args.toList ds p := hA0
  rw [Trym.params4] at hA hval
  obtain ⟨v0, vs0, d0, ds0, p0, q0, hargs, rfl, rfl, h0, r0⟩ := trodAll_cons hA
  obtain ⟨rfl, rfl, rfl⟩ := trodAll_nil r0
  obtain rfl : args = #[v0] := by cases args; simp_all
  obtain ⟨rfl, rfl⟩ := trodVars_none hV
  obtain ⟨a0, len0, cap0, rfl⟩ := okWide_slice Trym.underlying22 (hval 0 22 v0 rfl rfl)
  have k0 := h0
  have lt0 : ∀ x ∈ p0, x.block < W.heap.size := by obtain ⟨m, hm⟩ := k0; exact DataW.trod_lt m _ _ _ hm
  obtain ⟨z0, w0⟩ : ∃ zs, IsRow .u16 W a0 len0 cap0 zs := by
    obtain ⟨fuel, hf⟩ := h0
    rcases open_ints Trym.underlying22 Trym.underlying27 (by kernel_rfl) hf with ⟨hcs, _⟩ | ⟨x, l, c, zs, hcs, _, hl, hm, hz, _, hcell, hwz⟩
    · simp [Value.cells] at hcs
      obtain ⟨rfl, rfl, rfl⟩ := hcs
      exact ⟨[], .inl ⟨rfl, rfl, rfl, rfl⟩⟩
    · simp [Value.cells] at hcs
      obtain ⟨rfl, rfl, rfl⟩ := hcs
      exact ⟨zs, .inr ⟨_, rfl, hl, hm, by simpa using hz, hcell, hwz⟩⟩
  clear hA0 hval0
  refine (walk a0 len0 cap0 z0 W w0).mono fun e W' ⟨he, bel⟩ => ?_
  subst he
  exact ⟨_, rfl, _, _, _, [], _, [], hW', trodAll_mk1 (shut_bool Trym.underlying4 _), (trodAll_cons_mk (Below.trod laidOut (by kernel_rfl) (of_decide_eq_true (by kernel_rfl)) k0 bel lt0) trodAll_mk0), rfl, bel.frame _, fun h => by cases h⟩

theorem over : Rows.fnTypesKeyDecodesBackRow.holds Trym.pinned (OpenSpec.ofChange Rows.fnTypesKeyDecodesBackSpec) :=
  OpenClaim.holds_of_wide 4 Trym.f4 rfl rfl rfl rfl rfl rfl rfl ⟨rfl, rfl, rfl, rfl, rfl⟩ rfl rfl rfl rfl rfl (by kernel_rfl) Trym.func4 (by kernel_rfl)
    (of_decide_eq_true (by kernel_rfl)) (by unfold Func.isWrapper; first | (rw [if_pos (by decide +kernel)]; kernel_rfl) | (rw [if_neg (by decide +kernel)]; exact ⟨rfl, rfl⟩))
    (fun os started H enc _ => lifted os started H enc)

/-- ████ THE STATEMENT ████ -/
theorem proved : Rows.FnTypesKeyDecodesBackSaid := over
end Go.Proofs.Qxb6600055aMods.fnTypesKeyDecodesBack
