/-
  THE WALK of the law FnRoomsTakeMatchesModel.
-/
import Derived.Test.Qxb6600582aModsPlain
namespace Go.Proofs.Qxb6600582aMods.fnRoomsTakeMatchesModel
open Go.RowKit

/-- A number beyond the bounds: true at once. -/
theorem early (N : Nat → Nat) (n : Nat) (nr : Bool) (w : World) (h : ¬ (N 0 ≤ 65536 ∧ N 1 ≤ 65536 ∧ N 2 ≤ 65536 ∧ N 3 ≤ 65536 ∧ n ≤ 65536)) :
    Calls Trym.prog 3 #[.int .u32 (N 0), .int .u32 (N 1), .int .u32 (N 2), .int .u32 (N 3), .int .u64 n, .bool nr] w fun e w' => e = .returned (.bool true) ∧ Below w.heap.size w w' := by
  by_cases h0 : N 0 ≤ 65536
  · by_cases h1 : N 1 ≤ 65536
    · by_cases h2 : N 2 ≤ 65536
      · by_cases h3 : N 3 ≤ 65536
        · have h4 : ¬ n ≤ 65536 := fun e => h ⟨h0, h1, h2, h3, e⟩
          clear h
          go_enter Trym.func3, Trym.ntmps3
          go_wp2
          go_ret
          exact ⟨rfl, Below.refl _ _⟩
        · clear h
          go_enter Trym.func3, Trym.ntmps3
          go_wp2
          go_ret
          exact ⟨rfl, Below.refl _ _⟩
      · clear h
        go_enter Trym.func3, Trym.ntmps3
        go_wp2
        go_ret
        exact ⟨rfl, Below.refl _ _⟩
    · clear h
      go_enter Trym.func3, Trym.ntmps3
      go_wp2
      go_ret
      exact ⟨rfl, Below.refl _ _⟩
  · clear h
    go_enter Trym.func3, Trym.ntmps3
    go_wp2
    go_ret
    exact ⟨rfl, Below.refl _ _⟩

/-- No rooms at all. -/
theorem bare (N : Nat → Nat) (n : Nat) (w : World) (h0 : N 0 ≤ 65536) (h1 : N 1 ≤ 65536) (h2 : N 2 ≤ 65536) (h3 : N 3 ≤ 65536) (hn : n ≤ 65536) :
    Calls Trym.prog 3 #[.int .u32 (N 0), .int .u32 (N 1), .int .u32 (N 2), .int .u32 (N 3), .int .u64 n, .bool true] w fun e w' => e = .returned (.bool true) ∧ Below w.heap.size w w' := by
  go_enter Trym.func3, Trym.ntmps3
  go_wp2_with fail
  refine (zztake_none n _ hn).mono ?_
  rintro e w' ⟨⟨a, rfl⟩, hb⟩
  go_wp2
  go_ret
  exact ⟨ret_bool (by simp), hb⟩

set_option maxHeartbeats 1000000 in
theorem main (N : Nat → Nat) (n : Nat) (w : World) (h0 : N 0 ≤ 65536) (h1 : N 1 ≤ 65536) (h2 : N 2 ≤ 65536) (h3 : N 3 ≤ 65536) (hn : n ≤ 65536) :
    Calls Trym.prog 3 #[.int .u32 (N 0), .int .u32 (N 1), .int .u32 (N 2), .int .u32 (N 3), .int .u64 n, .bool false] w fun e w' => e = .returned (.bool true) ∧ Below w.heap.size w w' := by
  have HN : Hid (∀ i, i < 4 → N i ≤ 65536) := four h0 h1 h2 h3
  go_enter Trym.func3, Trym.ntmps3
  go_wp2_with fail
  refine (of_any N HN.out _).mono ?_
  rintro e w1 ⟨B, A, rfl, hB1, hB2, hR, hA, hb1⟩
  have HA : Hid (∀ i, i < 4 → (A i = none ↔ N i = 0)) := hA
  have X1 : Hid (Box w1 w.heap.size N) := Box.later (w := w.alloc (numBox N)) (four (by simp) (by simp) (by simp) (by simp)) hb1 (by simp)
  have HR : Hid (Rms w1 B A N N) := hR
  have hbb : Below w.heap.size w w1 := ((Below.refl _ _).alloc (Nat.le_refl _) _).trans (hb1.mono (by simp))
  have HB : Hid (w.heap.size < B) := by unfold Hid; simp at hB1; omega
  clear hA hR hb1 hB1
  go_wp2_with fail
  refine (zztake_any B A N n _ HN.out hn HR.out).mono ?_
  rintro e w2 (⟨hbst, ⟨a, rfl⟩, hR, hb2⟩ | ⟨j, hj, hbst, ⟨a, rfl⟩, hR, hb2⟩)
  · have X2 : Hid (Box w2 w.heap.size N) := X1.out.later hb2 HB.out
    have hbb2 : Below w.heap.size w w2 := hbb.trans (hb2.mono (Nat.le_of_lt HB.out))
    have HBS : Hid (bst N n 4 = -1) := hbst
    have HR2 : Hid (Rms w2 B A N N) := hR
    have hz2 : w.heap.size < w2.heap.size := World.block_lt_of_cell? _ _ (X2.out 0 (by omega)).1
    clear hbst hbb hb2 X1 HR hR hB2 HB
    go_wp2_with fail
    refine (free_any B A N N _ HR2.out).mono ?_
    rintro e w3 ⟨rfl, hb3⟩
    have X3 : Hid (Box w3 w.heap.size N) := X2.out.later hb3 hz2
    have hbb3 : Below w.heap.size w w3 := hbb2.trans (hb3.mono hbb2.size)
    have hz3 : w.heap.size < w3.heap.size := Nat.lt_of_lt_of_le hz2 hb3.size
    clear HR2 X2 hbb2 hb3 hz2
    obtain ⟨c0, -⟩ := X3.out 0 (by omega)
    obtain ⟨c1, -⟩ := X3.out 1 (by omega)
    obtain ⟨c2, -⟩ := X3.out 2 (by omega)
    obtain ⟨c3, -⟩ := X3.out 3 (by omega)
    go_wp2_with fail
    refine (sort_any N HN.out _).mono ?_
    rintro e w4 ⟨s, rfl, hL, hS, hb4⟩
    have HL : Hid (Like s N) := hL
    have HS : Hid (∀ p q, p < q → q < 4 → s p ≤ s q) := hS
    have X4 : Hid (Box w4 w.heap.size N) := Box.later (w := w3.alloc (roomBox A N N)) (Box.later X3.out ((Below.refl w3.heap.size w3).alloc (Nat.le_refl _) _) hz3) hb4 (by simp; omega)
    have Y4 : Hid (Rms w4 w3.heap.size A N N) := Rms.later (w := w3.alloc (roomBox A N N)) (four (by simp) (by simp) (by simp) (by simp)) hb4 (by simp)
    have hbb4 : Below w.heap.size w w4 := (hbb3.alloc hbb3.size _).trans (hb4.mono (by simp; omega))
    have hz4 : w3.heap.size < w4.heap.size := World.block_lt_of_cell? _ _ (Y4.out 0 (by omega)).1
    have hz5 : w.heap.size < w4.heap.size := Nat.lt_trans hz3 hz4
    clear hL hS hb4 c0 c1 c2 c3 X3 hbb3
    go_wp2
    go_loop [20, 21, 22] (fun a m i => ∃ k : Nat, k ≤ 4 ∧ i = .int .i64 k ∧ a = .int .i64 (-1) ∧ m = .int .u32 0) (fun _ _ i => 4 - (intOf i).toNat)
    case atStart => exact ⟨0, by omega, rfl, rfl, rfl⟩
    case round =>
      obtain ⟨k, hk, rfl, rfl, rfl⟩ := hrel
      by_cases hlt : k < 4
      · have hlti : (k : Int) < 4 := by omega
        have hsk : s k < n := none_fits N s n HL.out HBS.out k hlt
        have hsi : ¬ (n : Int) ≤ (s k : Int) := by omega
        have hc : (w4.alloc (numBox s)).cell? ⟨w4.heap.size, k, none⟩ = some (.int .u32 (s k)) :=
          four (p := fun k => (w4.alloc (numBox s)).cell? ⟨w4.heap.size, k, none⟩ = some (.int .u32 (s k))) (by simp) (by simp) (by simp) (by simp) k hlt
        go_wp2
        go_round
        case rel => exact ⟨k + 1, by omega, by go_num, rfl, rfl⟩
        case measure => simp [intOf]; omega
      · obtain ⟨c0, -⟩ := X4.out 0 (by omega)
        obtain ⟨c1, -⟩ := X4.out 1 (by omega)
        obtain ⟨c2, -⟩ := X4.out 2 (by omega)
        obtain ⟨c3, -⟩ := X4.out 3 (by omega)
        obtain ⟨d0, -⟩ := Y4.out 0 (by omega)
        obtain ⟨d1, -⟩ := Y4.out 1 (by omega)
        obtain ⟨d2, -⟩ := Y4.out 2 (by omega)
        obtain ⟨d3, -⟩ := Y4.out 3 (by omega)
        go_wp2_with fail
        refine (unchanged_any A N N N (-1) HN.out (fun i hi _ => ⟨rfl, rfl, HA.out i hi⟩) _).mono ?_
        rintro e w6 ⟨rfl, hb6⟩
        go_wp2
        go_ret
        exact ⟨rfl, (hbb4.alloc hbb4.size _).trans (hb6.mono (by simp; omega))⟩
  · have X2 : Hid (Box w2 w.heap.size N) := X1.out.later hb2 HB.out
    have hbb2 : Below w.heap.size w w2 := hbb.trans (hb2.mono (Nat.le_of_lt HB.out))
    have HBS : Hid (bst N n 4 = j) := hbst
    have HR2 : Hid (Rms w2 B (upd A j none) (upd N j 0) (upd N j 0)) := hR
    have hz2 : w.heap.size < w2.heap.size := World.block_lt_of_cell? _ _ (X2.out 0 (by omega)).1
    clear hbst hbb hb2 X1 HR hR hB2 HB
    go_wp2_with fail
    refine (free_any B (upd A j none) (upd N j 0) (upd N j 0) _ HR2.out).mono ?_
    rintro e w3 ⟨rfl, hb3⟩
    have X3 : Hid (Box w3 w.heap.size N) := X2.out.later hb3 hz2
    have hbb3 : Below w.heap.size w w3 := hbb2.trans (hb3.mono hbb2.size)
    have hz3 : w.heap.size < w3.heap.size := Nat.lt_of_lt_of_le hz2 hb3.size
    clear HR2 X2 hbb2 hb3 hz2
    obtain ⟨c0, -⟩ := X3.out 0 (by omega)
    obtain ⟨c1, -⟩ := X3.out 1 (by omega)
    obtain ⟨c2, -⟩ := X3.out 2 (by omega)
    obtain ⟨c3, -⟩ := X3.out 3 (by omega)
    go_wp2_with fail
    refine (sort_any N HN.out _).mono ?_
    rintro e w4 ⟨s, rfl, hL, hS, hb4⟩
    have HL : Hid (Like s N) := hL
    have HS : Hid (∀ p q, p < q → q < 4 → s p ≤ s q) := hS
    have X4 : Hid (Box w4 w.heap.size N) := Box.later (w := w3.alloc (roomBox (upd A j none) (upd N j 0) (upd N j 0))) (Box.later X3.out ((Below.refl w3.heap.size w3).alloc (Nat.le_refl _) _) hz3) hb4 (by simp; omega)
    have Y4 : Hid (Rms w4 w3.heap.size (upd A j none) (upd N j 0) (upd N j 0)) := Rms.later (w := w3.alloc (roomBox (upd A j none) (upd N j 0) (upd N j 0))) (four (by simp) (by simp) (by simp) (by simp)) hb4 (by simp)
    have hbb4 : Below w.heap.size w w4 := (hbb3.alloc hbb3.size _).trans (hb4.mono (by simp; omega))
    have hz4 : w3.heap.size < w4.heap.size := World.block_lt_of_cell? _ _ (Y4.out 0 (by omega)).1
    have hz5 : w.heap.size < w4.heap.size := Nat.lt_trans hz3 hz4
    clear hL hS hb4 c0 c1 c2 c3 X3 hbb3
    go_wp2
    go_loop [20, 21, 22] (fun a m i => ∃ k : Nat, k ≤ 4 ∧ i = .int .i64 k ∧ a = .int .i64 (-1) ∧ m = .int .u32 0 ∧ Hid (∀ p, p < k → s p < n)) (fun _ _ i => 4 - (intOf i).toNat)
    case atStart => exact ⟨0, by omega, rfl, rfl, rfl, fun p hp => by omega⟩
    case round =>
      obtain ⟨k, hk, rfl, rfl, rfl, HK⟩ := hrel
      by_cases hlt : k < 4
      · have hlti : (k : Int) < 4 := by omega
        have hc : (w4.alloc (numBox s)).cell? ⟨w4.heap.size, k, none⟩ = some (.int .u32 (s k)) :=
          four (p := fun k => (w4.alloc (numBox s)).cell? ⟨w4.heap.size, k, none⟩ = some (.int .u32 (s k))) (by simp) (by simp) (by simp) (by simp) k hlt
        by_cases hge : n ≤ s k
        · have hsi : (n : Int) ≤ (s k : Int) := by omega
          have hsb : s k ≤ 65536 := by
            obtain ⟨q, hq, e⟩ := HL.out.1 k hlt
            rw [e]; exact HN.out q hq
          obtain ⟨c0, -⟩ := X4.out 0 (by omega)
          obtain ⟨c1, -⟩ := X4.out 1 (by omega)
          obtain ⟨c2, -⟩ := X4.out 2 (by omega)
          obtain ⟨c3, -⟩ := X4.out 3 (by omega)
          go_wp2_with fail
          refine (first_any N (s k) HN.out (by obtain ⟨q, hq, e⟩ := HL.out.1 k hlt; exact ⟨q, hq, e.symm⟩) _).mono ?_
          rintro e w6 ⟨j', rfl, hj', hv', hfirst, hb6⟩
          have hjj : j' = j := same_place N s n j k j' HL.out HS.out HBS.out hlt HK.out hge hj' hv' hfirst
          subst hjj
          have hq1 : (N j' : Int) ≤ (s k : Int) := by omega
          have hq2 : (s k : Int) ≤ (N j' : Int) := by omega
          have hji : (j' : Int) < 4 := by omega
          have X6 : Hid (Box w6 w.heap.size N) := Box.later (w := w4.alloc (numBox s)) (Box.later X4.out ((Below.refl w4.heap.size w4).alloc (Nat.le_refl _) _) hz5) hb6 (by simp; omega)
          have Y6 : Hid (Rms w6 w3.heap.size (upd A j' none) (upd N j' 0) (upd N j' 0)) := Rms.later (w := w4.alloc (numBox s)) (Rms.later Y4.out ((Below.refl w4.heap.size w4).alloc (Nat.le_refl _) _) hz4) hb6 (by simp; omega)
          have hbb6 : Below w.heap.size w w6 := (hbb4.alloc hbb4.size _).trans (hb6.mono (by simp; omega))
          clear c0 c1 c2 c3 hc hv' hfirst hb6 X4 Y4 hbb4
          obtain ⟨c0, -⟩ := X6.out 0 (by omega)
          obtain ⟨c1, -⟩ := X6.out 1 (by omega)
          obtain ⟨c2, -⟩ := X6.out 2 (by omega)
          obtain ⟨c3, -⟩ := X6.out 3 (by omega)
          obtain ⟨d0, -⟩ := Y6.out 0 (by omega)
          obtain ⟨d1, -⟩ := Y6.out 1 (by omega)
          obtain ⟨d2, -⟩ := Y6.out 2 (by omega)
          obtain ⟨d3, -⟩ := Y6.out 3 (by omega)
          obtain ⟨dj, -⟩ := Y6.out j' hj'
          rw [upd_at, upd_at] at dj
          go_wp2_with fail
          refine (unchanged_any (upd A j' none) (upd N j' 0) (upd N j' 0) N j' HN.out (fun i hi hne => ?_) _).mono ?_
          · have hne' : i ≠ j' := fun e => hne (by rw [e])
            rw [upd_off A hne', upd_off N hne']
            exact ⟨rfl, rfl, HA.out i hi⟩
          rintro e w7 ⟨rfl, hb7⟩
          go_wp2
          go_ret
          exact ⟨rfl, hbb6.trans (hb7.mono hbb6.size)⟩
        · have hsi : ¬ (n : Int) ≤ (s k : Int) := by omega
          go_wp2
          go_round
          case rel => exact ⟨k + 1, by omega, by go_num, rfl, rfl, fun p hp => by by_cases e : p = k; subst e; omega; exact HK.out p (by omega)⟩
          case measure => simp [intOf]; omega
      · obtain ⟨q, hq, hqn⟩ := some_fits N s n j HL.out HBS.out
        have := HK.out q (by omega)
        omega
end Go.Proofs.Qxb6600582aMods.fnRoomsTakeMatchesModel
