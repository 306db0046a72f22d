/-
  THE WALK of the law FnRoomsPutMatchesModel.
-/
import Derived.Test.Qxb6600582aModsPlain
namespace Go.Proofs.Qxb6600582aMods.fnRoomsPutMatchesModel
open Go.RowKit

/-- A number beyond the bounds: true at once. -/
theorem early (N : Nat → Nat) (m : Nat) (w : World) (h : ¬ (N 0 ≤ 65536 ∧ N 1 ≤ 65536 ∧ N 2 ≤ 65536 ∧ N 3 ≤ 65536 ∧ m ≤ 65536)) :
    Calls Trym.prog 5 #[.int .u32 (N 0), .int .u32 (N 1), .int .u32 (N 2), .int .u32 (N 3), .int .u32 m] w fun e w' => e = .returned (.bool true) ∧ Below w.heap.size w w' := by
  by_cases h0 : N 0 ≤ 65536
  · by_cases h1 : N 1 ≤ 65536
    · by_cases h2 : N 2 ≤ 65536
      · by_cases h3 : N 3 ≤ 65536
        · have h4 : ¬ m ≤ 65536 := fun e => h ⟨h0, h1, h2, h3, e⟩
          clear h
          go_enter Trym.func5, Trym.ntmps5
          go_wp2
          go_ret
          exact ⟨rfl, Below.refl _ _⟩
        · clear h
          go_enter Trym.func5, Trym.ntmps5
          go_wp2
          go_ret
          exact ⟨rfl, Below.refl _ _⟩
      · clear h
        go_enter Trym.func5, Trym.ntmps5
        go_wp2
        go_ret
        exact ⟨rfl, Below.refl _ _⟩
    · clear h
      go_enter Trym.func5, Trym.ntmps5
      go_wp2
      go_ret
      exact ⟨rfl, Below.refl _ _⟩
  · clear h
    go_enter Trym.func5, Trym.ntmps5
    go_wp2
    go_ret
    exact ⟨rfl, Below.refl _ _⟩

set_option maxHeartbeats 1000000 in
theorem main (N : Nat → Nat) (m : Nat) (w : World) (h0 : N 0 ≤ 65536) (h1 : N 1 ≤ 65536) (h2 : N 2 ≤ 65536) (h3 : N 3 ≤ 65536) (hm : m ≤ 65536) :
    Calls Trym.prog 5 #[.int .u32 (N 0), .int .u32 (N 1), .int .u32 (N 2), .int .u32 (N 3), .int .u32 m] w fun e w' => e = .returned (.bool true) ∧ Below w.heap.size w w' := by
  obtain ⟨i0, hi, hz0, hz1, hz2⟩ := info_parts Trym.info5
  have HN : Hid (∀ i, i < 4 → N i ≤ 65536) := four h0 h1 h2 h3
  go_enter Trym.func5, Trym.ntmps5
  go_wp2_with fail
  refine (of_any N HN.out _).mono ?_
  rintro e w1 ⟨B, A, rfl, hB1, hB2, hR, hA, hb1⟩
  have HA : Hid (∀ i, i < 4 → (A i = none ↔ N i = 0)) := hA
  have X1 : Hid (Box w1 w.heap.size N) := Box.later (w := w.alloc (numBox N)) (four (by simp) (by simp) (by simp) (by simp)) hb1 (by simp)
  have HR : Hid (Rms w1 B A N N) := hR
  have hbb : Below w.heap.size w w1 := ((Below.refl _ _).alloc (Nat.le_refl _) _).trans (hb1.mono (by simp))
  have HB : Hid (w.heap.size < B) := by unfold Hid; simp at hB1; omega
  clear hA hR hb1 hB1
  go_wp2_with (at_make; refine wpList_make_full _ rfl _ _ 25 rfl 0 5 i0 (.int .u8 0) 1 Trym.underlying25 hi hz0 hz1 _ _ _ _ m rfl rfl rfl rfl ?m2 ?m3 (Nat.zero_le _) ?_)
  case m2 => first | omega | (rw [hz2]; omega)
  case m3 => unfold maxLen; omega
  intro w1' _ hgrow
  have hbm : Below w1.heap.size w1 w1' := (Below.refl _ _).grown hgrow (Nat.le_refl _) (fun k h => by cases h)
  clear hgrow
  have X1' : Hid (Box w1' w.heap.size N) := X1.out.later hbm (Nat.lt_trans HB.out hB2)
  have HR' : Hid (Rms w1' B A N N) := HR.out.later hbm hB2
  have hbb' : Below w.heap.size w w1' := hbb.trans (hbm.mono hbb.size)
  clear X1 HR hbb hbm hB2
  go_wp2_with fail
  refine (zzput_any B A N _ m _ HN.out hm HR'.out).mono ?_
  rintro e w2 ⟨rfl, (⟨hlo, hR, hb2⟩ | ⟨hlo, a, hR, hb2⟩)⟩
  · have X2 : Hid (Box w2 w.heap.size N) := X1'.out.later hb2 HB.out
    have hbb2 : Below w.heap.size w w2 := hbb'.trans (hb2.mono (Nat.le_of_lt HB.out))
    have HLO : Hid (¬ N (sml N 4) < m) := hlo
    have HR2 : Hid (Rms w2 B A N N) := hR
    have hy2 : w.heap.size < w2.heap.size := World.block_lt_of_cell? _ _ (X2.out 0 (by omega)).1
    clear hlo hbb' hb2 X1' HR' hR HB
    go_wp2_with fail
    refine (free_any B A N N _ HR2.out).mono ?_
    rintro e w3 ⟨rfl, hb3⟩
    have X3 : Hid (Box w3 w.heap.size N) := X2.out.later hb3 hy2
    have hbb3 : Below w.heap.size w w3 := hbb2.trans (hb3.mono hbb2.size)
    have hz3 : w.heap.size < w3.heap.size := Nat.lt_of_lt_of_le hy2 hb3.size
    clear HR2 X2 hbb2 hb3 hy2
    obtain ⟨c0, -⟩ := X3.out 0 (by omega)
    obtain ⟨c1, -⟩ := X3.out 1 (by omega)
    obtain ⟨c2, -⟩ := X3.out 2 (by omega)
    obtain ⟨c3, -⟩ := X3.out 3 (by omega)
    go_wp2_with fail
    refine (sort_any N HN.out _).mono ?_
    rintro e w4 ⟨s, rfl, hL, hS, hb4⟩
    have HL : Hid (Like s N) := hL
    have HS : Hid (∀ p q, p < q → q < 4 → s p ≤ s q) := hS
    have X4 : Hid (Box w4 w.heap.size N) := Box.later (w := w3.alloc (roomBox A N N)) (Box.later X3.out ((Below.refl w3.heap.size w3).alloc (Nat.le_refl _) _) hz3) hb4 (by simp; omega)
    have Y4 : Hid (Rms w4 w3.heap.size A N N) := Rms.later (w := w3.alloc (roomBox A N N)) (four (by simp) (by simp) (by simp) (by simp)) hb4 (by simp)
    have hbb4 : Below w.heap.size w w4 := (hbb3.alloc hbb3.size _).trans (hb4.mono (by simp; omega))
    have hz4 : w3.heap.size < w4.heap.size := World.block_lt_of_cell? _ _ (Y4.out 0 (by omega)).1
    have hz5 : w.heap.size < w4.heap.size := Nat.lt_trans hz3 hz4
    clear hL hS hb4 c0 c1 c2 c3 X3 hbb3
    have hle := least N s HL.out HS.out
    have hix : ∀ w : World, (Instr.index 27 (nums s) (.int .i64 0)).run Trym.prog w = .ok (.int .u32 (s 0)) w := fun _ => by kernel_rfl
    obtain ⟨c0, -⟩ := X4.out 0 (by omega)
    obtain ⟨c1, -⟩ := X4.out 1 (by omega)
    obtain ⟨c2, -⟩ := X4.out 2 (by omega)
    obtain ⟨c3, -⟩ := X4.out 3 (by omega)
    have hms : (m : Int) ≤ (s 0 : Int) := by have := HLO.out; omega
    clear hle
    obtain ⟨d0, -⟩ := Y4.out 0 (by omega)
    obtain ⟨d1, -⟩ := Y4.out 1 (by omega)
    obtain ⟨d2, -⟩ := Y4.out 2 (by omega)
    obtain ⟨d3, -⟩ := Y4.out 3 (by omega)
    go_wp2_with fail
    refine (unchanged_any A N N N (-1) HN.out (fun i hi _ => ⟨rfl, rfl, HA.out i hi⟩) _).mono ?_
    rintro e w6 ⟨rfl, hb6⟩
    go_wp2
    go_ret
    exact ⟨rfl, hbb4.trans (hb6.mono hbb4.size)⟩
  · have X2 : Hid (Box w2 w.heap.size N) := X1'.out.later hb2 HB.out
    have hbb2 : Below w.heap.size w w2 := hbb'.trans (hb2.mono (Nat.le_of_lt HB.out))
    have HLO : Hid (N (sml N 4) < m) := hlo
    have HR2 : Hid (Rms w2 B (upd A (sml N 4) a) (upd N (sml N 4) 0) (upd N (sml N 4) m)) := hR
    have hy2 : w.heap.size < w2.heap.size := World.block_lt_of_cell? _ _ (X2.out 0 (by omega)).1
    clear hlo hbb' hb2 X1' HR' hR HB
    go_wp2_with fail
    refine (free_any B (upd A (sml N 4) a) (upd N (sml N 4) 0) (upd N (sml N 4) m) _ HR2.out).mono ?_
    rintro e w3 ⟨rfl, hb3⟩
    have X3 : Hid (Box w3 w.heap.size N) := X2.out.later hb3 hy2
    have hbb3 : Below w.heap.size w w3 := hbb2.trans (hb3.mono hbb2.size)
    have hz3 : w.heap.size < w3.heap.size := Nat.lt_of_lt_of_le hy2 hb3.size
    clear HR2 X2 hbb2 hb3 hy2
    obtain ⟨c0, -⟩ := X3.out 0 (by omega)
    obtain ⟨c1, -⟩ := X3.out 1 (by omega)
    obtain ⟨c2, -⟩ := X3.out 2 (by omega)
    obtain ⟨c3, -⟩ := X3.out 3 (by omega)
    go_wp2_with fail
    refine (sort_any N HN.out _).mono ?_
    rintro e w4 ⟨s, rfl, hL, hS, hb4⟩
    have HL : Hid (Like s N) := hL
    have HS : Hid (∀ p q, p < q → q < 4 → s p ≤ s q) := hS
    have X4 : Hid (Box w4 w.heap.size N) := Box.later (w := w3.alloc (roomBox (upd A (sml N 4) a) (upd N (sml N 4) 0) (upd N (sml N 4) m))) (Box.later X3.out ((Below.refl w3.heap.size w3).alloc (Nat.le_refl _) _) hz3) hb4 (by simp; omega)
    have Y4 : Hid (Rms w4 w3.heap.size (upd A (sml N 4) a) (upd N (sml N 4) 0) (upd N (sml N 4) m)) := Rms.later (w := w3.alloc (roomBox (upd A (sml N 4) a) (upd N (sml N 4) 0) (upd N (sml N 4) m))) (four (by simp) (by simp) (by simp) (by simp)) hb4 (by simp)
    have hbb4 : Below w.heap.size w w4 := (hbb3.alloc hbb3.size _).trans (hb4.mono (by simp; omega))
    have hz4 : w3.heap.size < w4.heap.size := World.block_lt_of_cell? _ _ (Y4.out 0 (by omega)).1
    have hz5 : w.heap.size < w4.heap.size := Nat.lt_trans hz3 hz4
    clear hL hS hb4 c0 c1 c2 c3 X3 hbb3
    have hle := least N s HL.out HS.out
    have hix : ∀ w : World, (Instr.index 27 (nums s) (.int .i64 0)).run Trym.prog w = .ok (.int .u32 (s 0)) w := fun _ => by kernel_rfl
    obtain ⟨c0, -⟩ := X4.out 0 (by omega)
    obtain ⟨c1, -⟩ := X4.out 1 (by omega)
    obtain ⟨c2, -⟩ := X4.out 2 (by omega)
    obtain ⟨c3, -⟩ := X4.out 3 (by omega)
    have hms : ¬ (m : Int) ≤ (s 0 : Int) := by have := HLO.out; omega
    have HLE : Hid (N (sml N 4) = s 0) := hle
    clear hle
    go_wp2_with fail
    refine (first_any N (s 0) HN.out ⟨sml N 4, sml_lt N 4 (by omega), HLE.out⟩ _).mono ?_
    rintro e w6 ⟨j, rfl, hj, hv, hfirst, hb6⟩
    have hjj : j = sml N 4 := least_place N s HL.out HS.out j hv hfirst
    have X6 : Hid (Box w6 w.heap.size N) := Box.later X4.out hb6 hz5
    have Y6 : Hid (Rms w6 w3.heap.size (upd A j a) (upd N j 0) (upd N j m)) := by rw [hjj]; exact Rms.later Y4.out hb6 hz4
    have hbb6 : Below w.heap.size w w6 := hbb4.trans (hb6.mono hbb4.size)
    have hji : (j : Int) < 4 := by omega
    clear c0 c1 c2 c3 hv hfirst hb6 X4 Y4 hbb4 hjj
    obtain ⟨c0, -⟩ := X6.out 0 (by omega)
    obtain ⟨c1, -⟩ := X6.out 1 (by omega)
    obtain ⟨c2, -⟩ := X6.out 2 (by omega)
    obtain ⟨c3, -⟩ := X6.out 3 (by omega)
    obtain ⟨d0, -⟩ := Y6.out 0 (by omega)
    obtain ⟨d1, -⟩ := Y6.out 1 (by omega)
    obtain ⟨d2, -⟩ := Y6.out 2 (by omega)
    obtain ⟨d3, -⟩ := Y6.out 3 (by omega)
    obtain ⟨dj, -⟩ := Y6.out j hj
    rw [upd_at, upd_at, upd_at] at dj
    go_wp2_with fail
    refine (unchanged_any (upd A j a) (upd N j 0) (upd N j m) N j HN.out (fun i hi hne => ?_) _).mono ?_
    · have hne' : i ≠ j := fun e => hne (by rw [e])
      rw [upd_off A hne', upd_off N hne', upd_off N hne']
      exact ⟨rfl, rfl, HA.out i hi⟩
    rintro e w7 ⟨rfl, hb7⟩
    go_wp2
    go_ret
    exact ⟨rfl, hbb6.trans (hb7.mono hbb6.size)⟩
end Go.Proofs.Qxb6600582aMods.fnRoomsPutMatchesModel
