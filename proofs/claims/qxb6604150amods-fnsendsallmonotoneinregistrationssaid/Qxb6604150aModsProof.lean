/-
  THE PROOF OF 'Rows.FnSendsAllMonotoneInRegistrationsSaid'. The frame is the guide's own way for slices that are only read (howto/template/XProofs.lean; 'Below.trod'), typed for three slices of strings.
-/
import Derived.Test.Qxb6604150aModsLaw
import Derived.ProofKit
import Derived.OpenShut
import Derived.ShutString
import Derived.ChangeOld
import Derived.Below
import Derived.SliceStrings
namespace Go.Proofs.Qxb6604150aMods.fnSendsAllMonotoneInRegistrations
open Go.ChangeShapes Go.WideShapes Go.ChangeAt Go.RowKit
set_option linter.unusedVariables false

theorem own : ownKnob Trym.prog.godebug = none := by kernel_rfl
theorem laidOut : laidOutB Trym.prog = true := by kernel_rfl

/-- What the walk is told of a slice of strings that came in: its elements alone. -/
def Came (w : World) (a : Option Addr) (len : Nat) : Prop :=
  ∃ xs : List ByteArray, len = xs.length ∧ xs.length ≤ 9223372036854775807 ∧ (∀ x ∈ xs, x.size ≤ 9223372036854775807) ∧ Holds w a xs ∧ (a = none → xs = [])

/-- A slice's cells at a plain address: where there is a cell at all. -/
theorem strs_at {w : World} {a : Addr} {ss : List ByteArray} (h : ∀ i, i < ss.length → w.cell? (a.add i) = some (.string (ss.getD i ByteArray.empty))) (hp : 0 < ss.length) :
    ∃ b off, a = ⟨b, off, none⟩ ∧ ∀ j, j < ss.length → w.cell? ⟨b, off + j, none⟩ = some (.string (ss.getD j ByteArray.empty)) := by
  obtain ⟨b, off, spot⟩ := a
  have hspot : spot = none := by simpa [Addr.add] using World.cell?_spot (h 0 hp)
  subst hspot
  exact ⟨b, off, rfl, fun j hj => by rw [← Go.WideShapes.add_plain]; exact h j hj⟩

theorem came_of {H : Type} {enc : TypeId × Value → H} {W : World} {base : Nat} {spare : Nat → Bool} {held : Bool} {a : Option Addr} {len cap : Nat} {d : DataW H} {p : List MemPlace} {fuel : Nat}
    (hf : DataW.trod enc Trym.prog W base spare held fuel 26 (Value.slice a len cap).cells.toList = some (d, p)) : Came W a len := by
  rcases open_strings Trym.underlying26 Trym.underlying9 (by kernel_rfl) hf with ⟨hcs, _⟩ | ⟨x, l, c, ss, hcs, _, hl, hm, hz, _, hcell, hws⟩
  · simp [Value.cells] at hcs
    obtain ⟨rfl, rfl, rfl⟩ := hcs
    exact ⟨[], rfl, by simp, fun t ht => by simp at ht, fun i hi => by simp at hi, fun _ => rfl⟩
  · simp [Value.cells] at hcs
    obtain ⟨rfl, rfl, rfl⟩ := hcs
    have hsl : len ≤ ss.length := by rw [hz]; split <;> omega
    have hlen : (ss.take len).length = len := by rw [List.length_take]; omega
    refine ⟨ss.take len, hlen.symm, ?_, ?_, ?_, fun h => by cases h⟩
    · unfold maxLen at hm; omega
    · intro t ht
      have := hws t (List.mem_of_mem_take ht)
      unfold maxLen at this
      omega
    · intro i hi
      obtain ⟨b, off, rfl, hc⟩ := strs_at hcell (by omega)
      have hci := hc i (by omega)
      refine ⟨b, off, rfl, World.block_lt_of_cell? _ _ hci, ?_⟩
      rw [hci]
      simp [List.getD, show i < len by omega]

theorem walk (a0 : Option Addr) (len0 cap0 : Nat) (a1 : Option Addr) (len1 cap1 : Nat) (a2 : Option Addr) (len2 cap2 : Nat) (w : World) (w0 : Came w a0 len0) (w1 : Came w a1 len1) (w2 : Came w a2 len2) :
    Calls Trym.prog 5 #[.slice a0 len0 cap0, .slice a1 len1 cap1, .slice a2 len2 cap2] w fun e w' => e = .returned (.bool true) ∧ Below w.heap.size w w' := by
  obtain ⟨x0, rfl, l0, s0, h0, n0⟩ := w0
  obtain ⟨x1, rfl, l1, s1, h1, n1⟩ := w1
  obtain ⟨x2, rfl, l2, s2, h2, n2⟩ := w2
  by_cases h : x0.length ≤ 4096 ∧ x1.length ≤ 4096 ∧ x2.length ≤ 4096
  · exact core a0 a1 a2 x0 x1 x2 cap0 cap1 cap2 w s0 s1 s2 h0 h1 h2 n0 n1 n2 h.1 h.2.1 h.2.2
  · exact early a0 a1 a2 _ _ _ cap0 cap1 cap2 w l0 l1 l2 (fun w' e => by subst e; exact bound_any a0 a1 a2 x0 x1 x2 cap0 cap1 cap2 _ l0 l1 l2 s0 s1 s2 h0 h1 h2) h

set_option maxRecDepth 100000 in
theorem lifted (os : Os) (started : os.Started) (H : Type) (enc : TypeId × Value → H) :
    ReturnsInHanded {} Trym.checked os 5 .any (Rows.fnSendsAllMonotoneInRegistrationsSpec.pre6 enc Trym.prog Trym.f5 Rows.fnSendsAllMonotoneInRegistrationsRow.domain false) (Rows.fnSendsAllMonotoneInRegistrationsSpec.post enc Trym.prog Trym.f5 false true false false) := by
  refine returnsInHanded_of_change (C := Trym.checked) own started (by kernel_rfl) Trym.func5
    (ChangeSpec.witness6 (enc := enc) (C := Trym.checked) false ⟨#[], #[.slice none 0 0, .slice none 0 0, .slice none 0 0], []⟩ 8 (by kernel_rfl) (by kernel_rfl) (by kernel_rfl) (by kernel_rfl)) ?_
  intro W base args ds gs before hval0 hW hcnd _
  have hval : ∀ (j : Nat) t v, Trym.f5.params[j]? = some t → args[j]? = some v → Value.okWide Trym.prog W .any base t v := hval0
  have hW' := hW
  obtain ⟨p, q, hA0, hV, rfl, hfz, hnd⟩ := hW
  have hA : DataW.TrodAll enc Trym.prog W 0 (fun _ => true) true Trym.f5.params.toList args.toList ds p := hA0
  rw [Trym.params5] at hA hval
  obtain ⟨v0, vs0, d0, ds0, p0, q0, hargs, rfl, rfl, h0, r0⟩ := trodAll_cons hA
  obtain ⟨v1, vs1, d1, ds1, p1, q1, rfl, rfl, rfl, h1, r1⟩ := trodAll_cons r0
  obtain ⟨v2, vs2, d2, ds2, p2, q2, rfl, rfl, rfl, h2, r2⟩ := trodAll_cons r1
  obtain ⟨rfl, rfl, rfl⟩ := trodAll_nil r2
  obtain rfl : args = #[v0, v1, v2] := by cases args; simp_all
  obtain ⟨rfl, rfl⟩ := trodVars_none hV
  obtain ⟨a0, len0, cap0, rfl⟩ := okWide_slice Trym.underlying26 (hval 0 26 v0 rfl rfl)
  have k0 := h0
  have lt0 : ∀ x ∈ p0, x.block < W.heap.size := by obtain ⟨m, hm⟩ := k0; exact DataW.trod_lt m _ _ _ hm
  have w0 : Came W a0 len0 := by obtain ⟨fuel, hf⟩ := h0; exact came_of hf
  obtain ⟨a1, len1, cap1, rfl⟩ := okWide_slice Trym.underlying26 (hval 1 26 v1 rfl rfl)
  have k1 := h1
  have lt1 : ∀ x ∈ p1, x.block < W.heap.size := by obtain ⟨m, hm⟩ := k1; exact DataW.trod_lt m _ _ _ hm
  have w1 : Came W a1 len1 := by obtain ⟨fuel, hf⟩ := h1; exact came_of hf
  obtain ⟨a2, len2, cap2, rfl⟩ := okWide_slice Trym.underlying26 (hval 2 26 v2 rfl rfl)
  have k2 := h2
  have lt2 : ∀ x ∈ p2, x.block < W.heap.size := by obtain ⟨m, hm⟩ := k2; exact DataW.trod_lt m _ _ _ hm
  have w2 : Came W a2 len2 := by obtain ⟨fuel, hf⟩ := h2; exact came_of hf
  clear hA0 hval0
  refine (walk a0 len0 cap0 a1 len1 cap1 a2 len2 cap2 W w0 w1 w2).mono fun e W' ⟨he, bel⟩ => ?_
  subst he
  exact ⟨_, rfl, _, _, _, [], _, [], hW', trodAll_mk1 (shut_bool Trym.underlying4 _), (trodAll_cons_mk (Below.trod laidOut (by kernel_rfl) (of_decide_eq_true (by kernel_rfl)) k0 bel lt0) (trodAll_cons_mk (Below.trod laidOut (by kernel_rfl) (of_decide_eq_true (by kernel_rfl)) k1 bel lt1) (trodAll_cons_mk (Below.trod laidOut (by kernel_rfl) (of_decide_eq_true (by kernel_rfl)) k2 bel lt2) trodAll_mk0))), rfl, bel.frame _, fun h => by cases h⟩

theorem over : Rows.fnSendsAllMonotoneInRegistrationsRow.holds Trym.pinned (OpenSpec.ofChange Rows.fnSendsAllMonotoneInRegistrationsSpec) :=
  OpenClaim.holds_of_wide 5 Trym.f5 rfl rfl rfl rfl rfl rfl rfl ⟨rfl, rfl, rfl, rfl, rfl⟩ rfl rfl rfl rfl rfl (by kernel_rfl) Trym.func5 (by kernel_rfl)
    (of_decide_eq_true (by kernel_rfl)) (by unfold Func.isWrapper; first | (rw [if_pos (by decide +kernel)]; kernel_rfl) | (rw [if_neg (by decide +kernel)]; exact ⟨rfl, rfl⟩))
    (fun os started H enc _ => lifted os started H enc)

/-- ████ THE STATEMENT ████ -/
theorem proved : Rows.FnSendsAllMonotoneInRegistrationsSaid :=
  over
end Go.Proofs.Qxb6604150aMods.fnSendsAllMonotoneInRegistrations
