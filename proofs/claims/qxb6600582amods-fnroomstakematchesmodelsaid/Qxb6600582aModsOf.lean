/-
  THE WALKS of zzRoomsOf (with ZZRoomsFrom) and of ZZRoomsFree.
-/
import Derived.Test.Qxb6600582aModsSort
namespace Go.Proofs.Qxb6600582aMods
open Go.RowKit

theorem Trym.info5 : (Trym.prog.info? 5).map (fun i => (i.zero, i.size, i.bytes)) = some (some (.int .u8 0), 1, 1) := by kernel_rfl

/-- Four rooms lie in block b, and may be written. -/
def Rms (w : World) (b : Nat) (A : Nat → Option Addr) (L C : Nat → Nat) : Prop := ∀ i, i < 4 → w.cell? ⟨b, i, none⟩ = some (.slice (A i) (L i) (C i)) ∧ w.frozen? ⟨b, i, none⟩ = false

theorem Rms.later {w w' : World} {b : Nat} {A : Nat → Option Addr} {L C : Nat → Nat} (h : Rms w b A L C) {B : Nat} (hb : Below B w w') (hB : b < B) : Rms w' b A L C := fun i hi =>
  ⟨(hb.cell (p := ⟨b, i, none⟩) hB).trans (h i hi).1, (hb.frozen (p := ⟨b, i, none⟩) hB).trans (h i hi).2⟩

theorem Box.later {w w' : World} {b : Nat} {f : Nat → Nat} (h : Box w b f) {B : Nat} (hb : Below B w w') (hB : b < B) : Box w' b f := fun i hi =>
  ⟨(hb.cell (p := ⟨b, i, none⟩) hB).trans (h i hi).1, (hb.frozen (p := ⟨b, i, none⟩) hB).trans (h i hi).2⟩

set_option maxHeartbeats 400000 in
theorem from_any (A : Nat → Option Addr) (L C : Nat → Nat) (w : World) :
    Calls Trym.prog 15 #[rooms A L C] w fun e w' => e = .returned (.pointer (some ⟨w.heap.size + 1, 0, none⟩)) ∧ w.heap.size + 1 < w'.heap.size ∧ Rms w' (w.heap.size + 1) A L C ∧ Below w.heap.size w w' := by
  go_enter Trym.func15, Trym.ntmps15
  go_wp2
  go_ret
  refine ⟨rfl, by simp, four (by simp) (by simp) (by simp) (by simp), ((Below.refl _ _).alloc (Nat.le_refl _) _).alloc (by simp) _⟩

set_option maxHeartbeats 400000 in
theorem free_any (b : Nat) (A : Nat → Option Addr) (L C : Nat → Nat) (w : World) (h : Rms w b A L C) :
    Calls Trym.prog 8 #[.pointer (some ⟨b, 0, none⟩)] w fun e w' => e = .returned (rooms A L C) ∧ Below w.heap.size w w' := by
  obtain ⟨c0, -⟩ := h 0 (by omega)
  obtain ⟨c1, -⟩ := h 1 (by omega)
  obtain ⟨c2, -⟩ := h 2 (by omega)
  obtain ⟨c3, -⟩ := h 3 (by omega)
  clear h
  have hb0 := World.block_lt_of_cell? _ _ c0
  go_enter Trym.func8, Trym.ntmps8
  go_wp2
  exact bodyPost_ret (v := rooms A L C) (by simp [results, Trym.results8, go_sem, *]) rfl ⟨rfl, (Below.refl _ _).alloc (Nat.le_refl _) _⟩

/-- The first k numbers; nought behind them. -/
def cut (N : Nat → Nat) (k : Nat) : Nat → Nat := fun p => if p < k then N p else 0

theorem cut_in (N : Nat → Nat) {k p : Nat} (h : p < k) : cut N k p = N p := if_pos h
theorem cut_out (N : Nat → Nat) {k p : Nat} (h : ¬ p < k) : cut N k p = 0 := if_neg h
theorem cut_next0 (N : Nat → Nat) {k : Nat} (h : N k = 0) (p : Nat) : cut N (k + 1) p = cut N k p := by
  by_cases h1 : p < k
  · rw [cut_in N h1, cut_in N (by omega)]
  · rw [cut_out N h1]
    by_cases h2 : p = k
    · subst h2; rw [cut_in N (by omega), h]
    · rw [cut_out N (by omega)]
theorem cut_next (N : Nat → Nat) {k p : Nat} (h : p ≠ k) : cut N (k + 1) p = cut N k p := by
  by_cases h1 : p < k
  · rw [cut_in N h1, cut_in N (by omega)]
  · rw [cut_out N h1, cut_out N (by omega)]

theorem Rms.congr {w : World} {b : Nat} {A A' : Nat → Option Addr} {L L' C C' : Nat → Nat} (h : Rms w b A L C) (hA : ∀ i, i < 4 → A i = A' i) (hL : ∀ i, i < 4 → L i = L' i) (hC : ∀ i, i < 4 → C i = C' i) : Rms w b A' L' C' := fun i hi => by
  rw [← hA i hi, ← hL i hi, ← hC i hi]; exact h i hi

/-- One room is laid. -/
theorem Rms.set {w : World} {b : Nat} {A A' : Nat → Option Addr} {L L' C C' : Nat → Nat} (h : Rms w b A L C) {k : Nat} (hk : k < 4) (hA : ∀ i, i < 4 → i ≠ k → A i = A' i) (hL : ∀ i, i < 4 → i ≠ k → L i = L' i) (hC : ∀ i, i < 4 → i ≠ k → C i = C' i) :
    Rms (w.setCell ⟨b, k, none⟩ (.slice (A' k) (L' k) (C' k))) b A' L' C' := by
  intro i hi
  refine ⟨?_, by rw [World.frozen?_setCell]; exact (h i hi).2⟩
  by_cases e : i = k
  · subst e
    exact World.cell?_setCell_same _ _ _ (h i hi).1
  · rw [World.cell?_setCell_other _ _ _ _ (addr_ne (fun e' => e e'.symm)), ← hA i hi e, ← hL i hi e, ← hC i hi e]
    exact (h i hi).1

theorem Box.setCell {w : World} {b : Nat} {f : Nat → Nat} (h : Box w b f) {p : Addr} (hp : p.block ≠ b) (v : Value) : Box (w.setCell p v) b f := h.other hp v

set_option maxHeartbeats 400000 in
theorem of_any (N : Nat → Nat) (hN : ∀ i, i < 4 → N i ≤ 65536) (w : World) :
    Calls Trym.prog 7 #[nums N] w fun e w' => ∃ (b : Nat) (A : Nat → Option Addr), e = .returned (.pointer (some ⟨b, 0, none⟩)) ∧ w.heap.size ≤ b ∧ b < w'.heap.size ∧ Rms w' b A N N ∧ (∀ i, i < 4 → (A i = none ↔ N i = 0)) ∧ Below w.heap.size w w' := by
  obtain ⟨i0, hi, hz0, hz1, hz2⟩ := info_parts Trym.info5
  have HN : Hid (∀ i, i < 4 → N i ≤ 65536) := hN
  clear hN
  go_enter Trym.func7, Trym.ntmps7
  go_wp2
  go_loopw [4] (fun i wr => ∃ (k : Nat) (A : Nat → Option Addr), k ≤ 4 ∧ i = .int .i64 k ∧ Hid (∀ p, p < 4 → (A p = none ↔ cut N k p = 0)) ∧ Hid (Box wr w.heap.size N) ∧ Hid (Rms wr (w.heap.size + 1) A (cut N k) (cut N k)) ∧ Hid (w.heap.size + 1 < wr.heap.size) ∧ Below w.heap.size w wr) (fun i _ => 4 - (intOf i).toNat)
  case atStart =>
    refine ⟨0, fun _ => none, by omega, rfl, fun p _ => by simp [cut], ?_, ?_, by show _ < _; simp, ((Below.refl _ _).alloc (Nat.le_refl _) _).alloc (by simp) _⟩
    · exact four (by simp) (by simp) (by simp) (by simp)
    · exact four (by simp [cut]) (by simp [cut]) (by simp [cut]) (by simp [cut])
  case round =>
    obtain ⟨k, A, hk, rfl, HA, HB, HR, HZ, hb⟩ := hrel
    by_cases hlt : k < 4
    · have hlti : (k : Int) < 4 := by omega
      have hNk := HN.out k hlt
      obtain ⟨c1, -⟩ := HB.out k hlt
      obtain ⟨c2, z2⟩ := HR.out k hlt
      by_cases hpos : 0 < N k
      · have hposi : (0 : Int) < (N k : Int) := by omega
        go_wp2_with (at_make; refine wpList_make_full _ rfl _ _ 25 rfl 0 5 i0 (.int .u8 0) 1 Trym.underlying25 hi hz0 hz1 _ _ _ _ (N k) rfl rfl rfl rfl ?m2 ?m3 ?m4 ?_)
        case m2 => rw [hz2]; omega
        case m3 => unfold maxLen; omega
        case m4 => exact Nat.zero_le _
        intro w2 _ hgrow
        have hb2 : Below wr.heap.size wr w2 := (Below.refl _ _).grown hgrow (Nat.le_refl _) (fun k h => by cases h)
        clear hgrow
        have c2' : w2.cell? ⟨w.heap.size + 1, k, none⟩ = some (.slice (A k) (cut N k k) (cut N k k)) := (hb2.cell (p := ⟨w.heap.size + 1, k, none⟩) HZ.out).trans c2
        have z2' : w2.frozen? ⟨w.heap.size + 1, k, none⟩ = false := (hb2.frozen (p := ⟨w.heap.size + 1, k, none⟩) HZ.out).trans z2
        clear c1 c2 z2
        go_wp2
        go_roundw
        case rel =>
          refine ⟨k + 1, fun p => if p = k then some ⟨wr.heap.size, 0, none⟩ else A p, by omega, by go_num, ?_, (HB.out.later hb2 (by have := HZ.out; omega)).other (by simp) _, ?_, ?_, ?_⟩
          · intro p hp
            by_cases e : p = k
            · subst e; simp [cut_in N (show p < p + 1 by omega)]; omega
            · rw [cut_next N e]; simp only [e, if_false]; exact HA.out p hp
          · have R := (HR.out.later hb2 HZ.out).set (A' := fun p => if p = k then some ⟨wr.heap.size, 0, none⟩ else A p) (L' := cut N (k + 1)) (C' := cut N (k + 1)) hlt (fun i _ e => by simp [e]) (fun i _ e => (cut_next N e).symm) (fun i _ e => (cut_next N e).symm)
            simp only [if_true, cut_in N (show k < k + 1 by omega)] at R
            exact R
          · have h1 := HZ.out
            have h2 := hb2.size
            show _ < _
            simp
            omega
          · exact (hb.trans (hb2.mono hb.size)).setCell (by simp) _
        case measure => simp [intOf]; omega
      · have hz : N k = 0 := by omega
        have HZk : Hid (N k = 0) := hz
        have hposi : ¬ (0 : Int) < (N k : Int) := by omega
        clear hz
        go_wp2
        go_roundw
        case rel => exact ⟨k + 1, A, by omega, by go_num, fun p hp => by rw [cut_next0 N HZk.out]; exact HA.out p hp, HB, HR.out.congr (fun _ _ => rfl) (fun i _ => (cut_next0 N HZk.out i).symm) (fun i _ => (cut_next0 N HZk.out i).symm), HZ, hb⟩
        case measure => simp [intOf]; omega
    · have hk4 : k = 4 := by omega
      subst hk4
      have HR4 : Rms wr (w.heap.size + 1) A N N := HR.out.congr (fun _ _ => rfl) (fun i hi => cut_in N hi) (fun i hi => cut_in N hi)
      obtain ⟨c0, -⟩ := HR4 0 (by omega)
      obtain ⟨c1, -⟩ := HR4 1 (by omega)
      obtain ⟨c2, -⟩ := HR4 2 (by omega)
      obtain ⟨c3, -⟩ := HR4 3 (by omega)
      clear HR4
      go_wp2_with fail
      refine (from_any A N N _).mono ?_
      rintro e w2 ⟨rfl, h1, h2, h3⟩
      have H2 : Hid (Rms w2 (wr.heap.size + 1) A N N) := h2
      clear h2
      go_wp2
      go_ret
      exact ⟨wr.heap.size + 1, A, rfl, by have := hb.size; omega, h1, H2.out, fun i hi => by rw [HA.out i hi, cut_in N hi], hb.trans (h3.mono hb.size)⟩
end Go.Proofs.Qxb6600582aMods
