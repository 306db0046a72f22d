/-
  THE WALK of (*rooms).take, with ZZTake.
-/
import Derived.Test.Qxb6600582aModsOf
namespace Go.Proofs.Qxb6600582aMods
open Go.RowKit

/-- The place of the least room of n or more among the first k, the first such; -1: none. -/
def bst (N : Nat → Nat) (n : Nat) : Nat → Int
  | 0 => -1
  | k + 1 => if n ≤ N k ∧ (bst N n k < 0 ∨ N k < N (bst N n k).toNat) then k else bst N n k

theorem bst_take (N : Nat → Nat) (n k : Nat) (h1 : n ≤ N k) (h2 : bst N n k < 0 ∨ N k < N (bst N n k).toNat) : bst N n (k + 1) = k := by simp only [bst, h1, h2, and_self, if_true]
theorem bst_small (N : Nat → Nat) (n k : Nat) (h1 : ¬ n ≤ N k) : bst N n (k + 1) = bst N n k := by simp only [bst, h1, false_and, if_false]
theorem bst_keep (N : Nat → Nat) (n k : Nat) (h2 : ¬ (bst N n k < 0 ∨ N k < N (bst N n k).toNat)) : bst N n (k + 1) = bst N n k := by simp only [bst, h2, and_false, if_false]

/-- f but for one place. -/
def upd {α : Type} (f : Nat → α) (j : Nat) (x : α) : Nat → α := fun i => if i = j then x else f i

theorem upd_at {α : Type} (f : Nat → α) (j : Nat) (x : α) : upd f j x j = x := if_pos rfl
theorem upd_off {α : Type} (f : Nat → α) {j i : Nat} (h : i ≠ j) (x : α) : upd f j x i = f i := if_neg h

/-- What 'take' does. -/
def Took (N : Nat → Nat) (A : Nat → Option Addr) (n B : Nat) (w : World) (e : Ending) (w' : World) : Prop :=
  (bst N n 4 = -1 ∧ (∃ a, e = .returned (.slice a 0 n)) ∧ Rms w' B A N N ∧ Below B w w') ∨
  (∃ j : Nat, j < 4 ∧ bst N n 4 = j ∧ (∃ a, e = .returned (.slice a 0 (N j))) ∧ Rms w' B (upd A j none) (upd N j 0) (upd N j 0) ∧ Below B w w')

set_option maxHeartbeats 800000 in
theorem take_any (B : Nat) (A : Nat → Option Addr) (N : Nat → Nat) (n : Nat) (w : World) (hN : ∀ i, i < 4 → N i ≤ 65536) (hn : n ≤ 65536) (h : Rms w B A N N) :
    Calls Trym.prog 14 #[.pointer (some ⟨B, 0, none⟩), .int .u64 n] w fun e w' => Took N A n B w e w' := by
  obtain ⟨i0, hi, hz0, hz1, hz2⟩ := info_parts Trym.info5
  obtain ⟨c0, -⟩ := h 0 (by omega)
  obtain ⟨c1, -⟩ := h 1 (by omega)
  obtain ⟨c2, -⟩ := h 2 (by omega)
  obtain ⟨c3, -⟩ := h 3 (by omega)
  have HN : Hid (∀ i, i < 4 → N i ≤ 65536) := hN
  have HR : Hid (Rms w B A N N) := h
  clear hN h
  go_enter Trym.func14, Trym.ntmps14
  go_wp2
  clear c0 c1 c2 c3
  go_loop [5, 15] (fun b i => ∃ k : Nat, k ≤ 4 ∧ i = .int .i64 k ∧ b = .int .i64 (bst N n k) ∧ (bst N n k = -1 ∨ ∃ j : Nat, j < k ∧ bst N n k = j)) (fun _ i => 4 - (intOf i).toNat)
  case atStart => exact ⟨0, by omega, rfl, rfl, .inl rfl⟩
  case round =>
    obtain ⟨k, hk, rfl, rfl, hor⟩ := hrel
    by_cases hlt : k < 4
    · have hlti : (k : Int) < 4 := by omega
      have hNk := HN.out k hlt
      have hix : ∀ w : World, (Instr.index 29 (rooms A N N) (.int .i64 (k : Int))).run Trym.prog w = .ok (.slice (A k) (N k) (N k)) w :=
        four (p := fun k => ∀ w : World, (Instr.index 29 (rooms A N N) (.int .i64 (k : Int))).run Trym.prog w = .ok (.slice (A k) (N k) (N k)) w) (fun _ => by kernel_rfl) (fun _ => by kernel_rfl) (fun _ => by kernel_rfl) (fun _ => by kernel_rfl) k hlt
      by_cases hge : n ≤ N k
      · rcases hor with hb | ⟨j, hj, hb⟩
        · have E : Hid (bst N n (k + 1) = k) := bst_take N n k hge (.inl (by omega))
          rw [hb]
          clear hb
          go_wp2
          go_round
          case rel => exact ⟨k + 1, by omega, by go_num, by rw [E.out], .inr ⟨k, by omega, E.out⟩⟩
          case measure => simp [intOf]; omega
        · obtain ⟨cj, -⟩ := HR.out j (by omega)
          have hji : (j : Int) < 4 := by omega
          by_cases hlt2 : (N k : Int) < (N j : Int)
          · have E : Hid (bst N n (k + 1) = k) := bst_take N n k hge (.inr (by rw [hb]; simp; omega))
            rw [hb]
            clear hb
            go_wp2
            go_round
            case rel => exact ⟨k + 1, by omega, by go_num, by rw [E.out], .inr ⟨k, by omega, E.out⟩⟩
            case measure => simp [intOf]; omega
          · have E : Hid (bst N n (k + 1) = j) := (bst_keep N n k (by rw [hb]; simp; omega)).trans hb
            rw [hb]
            clear hb
            go_wp2
            go_round
            case rel => exact ⟨k + 1, by omega, by go_num, by rw [E.out], .inr ⟨j, by omega, E.out⟩⟩
            case measure => simp [intOf]; omega
      · have E : Hid (bst N n (k + 1) = bst N n k) := bst_small N n k hge
        obtain ⟨b, hb⟩ : ∃ b, b = bst N n k := ⟨_, rfl⟩
        rw [← hb]
        rw [← hb] at hor
        have HB : Hid (b = bst N n k) := hb
        clear hb
        go_wp2
        go_round
        case rel => exact ⟨k + 1, by omega, by go_num, by rw [E.out, ← HB.out], by rw [E.out, ← HB.out]; rcases hor with h | ⟨j, hj, h⟩; exact .inl h; exact .inr ⟨j, by omega, h⟩⟩
        case measure => simp [intOf]; omega
    · have hk4 : k = 4 := by omega
      subst hk4
      rcases hor with hb | ⟨j, hj, hb⟩
      · have E : Hid (bst N n 4 = -1) := hb
        rw [hb]
        clear hb
        go_wp2_with (at_make; refine wpList_make_own _ rfl _ _ 25 rfl 0 5 i0 (.int .u8 0) 1 Trym.underlying25 hi hz0 hz1 _ _ _ n rfl rfl ?m1 ?m2 ?m3 (Nat.zero_le _) ?_)
        case m1 => rfl
        case m2 => first | omega | (rw [hz2]; omega)
        case m3 => unfold maxLen; omega
        intro w2 _ hgrow
        have hb2 : Below w.heap.size w w2 := (Below.refl _ _).grown hgrow (Nat.le_refl _) (fun k h => by cases h)
        clear hgrow
        go_wp2
        go_ret
        have hB := World.block_lt_of_cell? _ _ (HR.out 0 (by omega)).1
        exact .inl ⟨E.out, ⟨_, rfl⟩, HR.out.later hb2 hB, hb2.mono (Nat.le_of_lt hB)⟩
      · have E : Hid (bst N n 4 = j) := hb
        rw [hb]
        clear hb
        obtain ⟨cj, zj⟩ := HR.out j (by omega)
        have hji : (j : Int) < 4 := by omega
        go_wp2
        go_ret
        refine .inr ⟨j, by omega, E.out, ⟨_, rfl⟩, ?_, (Below.refl B w).setCell (p := ⟨B, j, none⟩) (Nat.le_refl B) _⟩
        have R := HR.out.set (k := j) (A' := upd A j none) (L' := upd N j 0) (C' := upd N j 0) (by omega) (fun i _ e => (upd_off A e _).symm) (fun i _ e => (upd_off N e _).symm) (fun i _ e => (upd_off N e _).symm)
        rw [upd_at, upd_at] at R
        exact R

/-- 'take' of no rooms at all. -/
theorem take_none (n : Nat) (w : World) (hn : n ≤ 65536) :
    Calls Trym.prog 14 #[.pointer none, .int .u64 n] w fun e w' => (∃ a, e = .returned (.slice a 0 n)) ∧ Below w.heap.size w w' := by
  obtain ⟨i0, hi, hz0, hz1, hz2⟩ := info_parts Trym.info5
  go_enter Trym.func14, Trym.ntmps14
  go_wp2_with (at_make; refine wpList_make_own _ rfl _ _ 25 rfl 0 5 i0 (.int .u8 0) 1 Trym.underlying25 hi hz0 hz1 _ _ _ n rfl rfl ?m1 ?m2 ?m3 (Nat.zero_le _) ?_)
  case m1 => rfl
  case m2 => first | omega | (rw [hz2]; omega)
  case m3 => unfold maxLen; omega
  intro w2 _ hgrow
  have hb2 : Below w.heap.size w w2 := (Below.refl _ _).grown hgrow (Nat.le_refl _) (fun k h => by cases h)
  clear hgrow
  go_wp2
  go_ret
  exact ⟨⟨_, rfl⟩, hb2⟩

theorem zztake_any (B : Nat) (A : Nat → Option Addr) (N : Nat → Nat) (n : Nat) (w : World) (hN : ∀ i, i < 4 → N i ≤ 65536) (hn : n ≤ 65536) (h : Rms w B A N N) :
    Calls Trym.prog 6 #[.pointer (some ⟨B, 0, none⟩), .int .u64 n] w fun e w' => Took N A n B w e w' := by
  have HC : Hid (Calls Trym.prog 14 #[.pointer (some ⟨B, 0, none⟩), .int .u64 n] w fun e w' => Took N A n B w e w') := take_any B A N n w hN hn h
  clear hN h
  go_enter Trym.func6, Trym.ntmps6
  go_wp2_with fail
  refine HC.out.mono ?_
  rintro e w' ht
  have HT : Hid (Took N A n B w e w') := ht
  obtain ⟨v, rfl⟩ : ∃ v, e = .returned v := by
    rcases ht with ⟨_, ⟨a, h⟩, _⟩ | ⟨_, _, _, ⟨a, h⟩, _⟩ <;> exact ⟨_, h⟩
  clear ht
  go_wp2
  go_ret
  exact HT.out

theorem zztake_none (n : Nat) (w : World) (hn : n ≤ 65536) :
    Calls Trym.prog 6 #[.pointer none, .int .u64 n] w fun e w' => (∃ a, e = .returned (.slice a 0 n)) ∧ Below w.heap.size w w' := by
  go_enter Trym.func6, Trym.ntmps6
  go_wp2_with fail
  refine (take_none n _ hn).mono ?_
  rintro e w' ⟨⟨a, rfl⟩, hb⟩
  go_wp2
  go_ret
  exact ⟨⟨a, rfl⟩, hb⟩

end Go.Proofs.Qxb6600582aMods
