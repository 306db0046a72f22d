/-
  THE WALK of zzSort4: four numbers, sorted by insertion.
-/
import Derived.Test.Qxb6600582aModsSmall
namespace Go.Proofs.Qxb6600582aMods
open Go.RowKit

/-- The same values, each of the one among the other. -/
def Like (f N : Nat → Nat) : Prop := (∀ i, i < 4 → ∃ j, j < 4 ∧ f i = N j) ∧ (∀ j, j < 4 → ∃ i, i < 4 ∧ f i = N j)

/-- Places m and m + 1 change. -/
def swp (f : Nat → Nat) (m : Nat) : Nat → Nat := fun i => if i = m then f (m + 1) else if i = m + 1 then f m else f i

theorem swp_lo (f : Nat → Nat) (m : Nat) : swp f m m = f (m + 1) := by simp [swp]
theorem swp_hi (f : Nat → Nat) (m : Nat) : swp f m (m + 1) = f m := by simp [swp]
theorem swp_off (f : Nat → Nat) (m i : Nat) (h1 : i ≠ m) (h2 : i ≠ m + 1) : swp f m i = f i := by simp [swp, h1, h2]

theorem Like.swp {f N : Nat → Nat} (h : Like f N) {m : Nat} (hm : m + 1 < 4) : Like (swp f m) N := by
  have hx : ∀ i, i < 4 → ∃ i', i' < 4 ∧ Qxb6600582aMods.swp f m i = f i' := by
    intro i hi
    by_cases h1 : i = m
    · exact ⟨m + 1, hm, by rw [h1, swp_lo]⟩
    · by_cases h2 : i = m + 1
      · exact ⟨m, by omega, by rw [h2, swp_hi]⟩
      · exact ⟨i, hi, swp_off f m i h1 h2⟩
  have hy : ∀ i, i < 4 → ∃ i', i' < 4 ∧ Qxb6600582aMods.swp f m i' = f i := by
    intro i hi
    by_cases h1 : i = m
    · exact ⟨m + 1, hm, by rw [h1, swp_hi]⟩
    · by_cases h2 : i = m + 1
      · exact ⟨m, by omega, by rw [h2, swp_lo]⟩
      · exact ⟨i, hi, swp_off f m i h1 h2⟩
  refine ⟨fun i hi => ?_, fun j hj => ?_⟩
  · obtain ⟨i', hi', e⟩ := hx i hi
    obtain ⟨j, hj, e'⟩ := h.1 i' hi'
    exact ⟨j, hj, e.trans e'⟩
  · obtain ⟨i, hi, e⟩ := h.2 j hj
    obtain ⟨i', hi', e'⟩ := hy i hi
    exact ⟨i', hi', e'.trans e⟩

/-- Up to k sorted, but for what stands at m: it is less than all behind it. -/
def But (f : Nat → Nat) (k m : Nat) : Prop := ∀ p q, p < q → q ≤ k → q ≠ m → f p ≤ f q

theorem But.start {f : Nat → Nat} {k : Nat} (h : ∀ p q, p < q → q < k → f p ≤ f q) : But f k k := fun p q h1 h2 h3 => h p q h1 (by omega)

theorem But.stop0 {f : Nat → Nat} {k : Nat} (h : But f k 0) : ∀ p q, p < q → q < k + 1 → f p ≤ f q := fun p q h1 h2 => h p q h1 (by omega) (by omega)

theorem But.stop {f : Nat → Nat} {k m : Nat} (h : But f k (m + 1)) (hm : m + 1 ≤ k) (hle : f m ≤ f (m + 1)) : ∀ p q, p < q → q < k + 1 → f p ≤ f q := by
  intro p q h1 h2
  by_cases e : q = m + 1
  · subst e
    by_cases e' : p = m
    · subst e'; exact hle
    · exact Nat.le_trans (h p m (by omega) (by omega) (by omega)) hle
  · exact h p q h1 (by omega) e

theorem But.step {f : Nat → Nat} {k m : Nat} (h : But f k (m + 1)) (_hm : m + 1 ≤ k) (hlt : f (m + 1) < f m) : But (swp f m) k m := by
  intro p q h1 h2 h3
  by_cases e : q = m + 1
  · subst e
    rw [swp_hi]
    by_cases e' : p = m
    · subst e'; rw [swp_lo]; omega
    · rw [swp_off f m p e' (by omega)]; exact h p m (by omega) (by omega) (by omega)
  · rw [swp_off f m q h3 e]
    by_cases e1 : p = m
    · subst e1; rw [swp_lo]; exact h (p + 1) q (by omega) h2 e
    · by_cases e2 : p = m + 1
      · subst e2; rw [swp_hi]; exact h m q (by omega) h2 e
      · rw [swp_off f m p e1 e2]; exact h p q h1 h2 e

/-- Four numbers lie in block b, and may be written. -/
def Box (w : World) (b : Nat) (f : Nat → Nat) : Prop := ∀ i, i < 4 → w.cell? ⟨b, i, none⟩ = some (.int .u32 (f i)) ∧ w.frozen? ⟨b, i, none⟩ = false

theorem addr_ne {b i j : Nat} (h : i ≠ j) : (⟨b, i, none⟩ : Addr) ≠ ⟨b, j, none⟩ := fun e => h (by injection e)

theorem Box.drewN {w : World} {b : Nat} {f : Nat → Nat} (h : Box w b f) (n : Nat) : Box (w.drewN n) b f := h

theorem Box.other {w : World} {b : Nat} {f : Nat → Nat} (h : Box w b f) {p : Addr} (hp : p.block ≠ b) (v : Value) : Box (w.setCell p v) b f := fun i hi =>
  ⟨(World.cell?_setCell_other _ _ _ _ (fun e => hp (by rw [e]))).trans (h i hi).1, by rw [World.frozen?_setCell]; exact (h i hi).2⟩

theorem Box.swap {w : World} {b : Nat} {g : Nat → Nat} (h : Box w b g) {m x y : Nat} (hm : 0 < m) (hm4 : m < 4) (hx : x = g (m - 1)) (hy : y = g m) :
    Box ((w.setCell ⟨b, m - 1, none⟩ (.int .u32 y)).setCell ⟨b, m, none⟩ (.int .u32 x)) b (swp g (m - 1)) := by
  have hmm : m - 1 + 1 = m := by omega
  intro i hi
  refine ⟨?_, by rw [World.frozen?_setCell, World.frozen?_setCell]; exact (h i hi).2⟩
  by_cases e1 : i = m
  · subst e1
    have := swp_hi g (i - 1)
    rw [hmm] at this
    rw [this, ← hx]
    exact World.cell?_setCell_same _ _ _ ((World.cell?_setCell_other _ _ _ _ (addr_ne (by omega))).trans (h i hi).1)
  · rw [World.cell?_setCell_other _ _ _ _ (addr_ne (by omega))]
    by_cases e2 : i = m - 1
    · subst e2
      rw [swp_lo, hmm, ← hy]
      exact World.cell?_setCell_same _ _ _ (h (m - 1) hi).1
    · rw [World.cell?_setCell_other _ _ _ _ (addr_ne (by omega)), swp_off g (m - 1) i e2 (by omega)]
      exact (h i hi).1

set_option maxHeartbeats 800000 in
theorem sort_any (N : Nat → Nat) (hN : ∀ i, i < 4 → N i ≤ 65536) (w : World) :
    Calls Trym.prog 9 #[nums N] w fun e w' => ∃ s : Nat → Nat, e = .returned (nums s) ∧ Like s N ∧ (∀ p q, p < q → q < 4 → s p ≤ s q) ∧ Below w.heap.size w w' := by
  have HN : Hid (∀ i, i < 4 → N i ≤ 65536) := hN
  clear hN
  go_enter Trym.func9, Trym.ntmps9
  go_wp2
  go_loopw [3] (fun i wr => ∃ (k : Nat) (f : Nat → Nat), 1 ≤ k ∧ k ≤ 4 ∧ i = .int .i64 k ∧ Hid (Like f N) ∧ Hid (∀ p q, p < q → q < k → f p ≤ f q) ∧ Hid (Box wr w.heap.size f) ∧ Hid (Box wr (w.heap.size + 1) (fun _ => 0)) ∧ Below w.heap.size w wr) (fun i _ => 4 - (intOf i).toNat)
  case atStart =>
    refine ⟨1, N, by omega, by omega, rfl, ⟨fun i hi => ⟨i, hi, rfl⟩, fun j hj => ⟨j, hj, rfl⟩⟩, fun p q h1 h2 => by omega, ?_, ?_, ((Below.refl _ _).alloc (Nat.le_refl _) _).alloc (by simp) _⟩
    · exact four (by simp) (by simp) (by simp) (by simp)
    · exact four (by simp) (by simp) (by simp) (by simp)
  case round =>
    obtain ⟨k, f, hk1, hk, rfl, HL, HS, HB, HZ, hb⟩ := hrel
    by_cases hlt : k < 4
    · have hlti : (k : Int) < 4 := by omega
      go_wp2
      go_loopw [4] (fun j wi => ∃ (m : Nat) (g : Nat → Nat), m ≤ k ∧ j = .int .i64 m ∧ Hid (Like g N) ∧ Hid (But g k m) ∧ Hid (Box wi w.heap.size g) ∧ Hid (Box wi (w.heap.size + 1) (fun _ => 0)) ∧ Below w.heap.size w wi) (fun j _ => (intOf j).toNat)
      case atStart => exact ⟨k, f, Nat.le_refl _, rfl, HL, But.start HS.out, HB, HZ, hb⟩
      case round =>
        obtain ⟨m, g, hmk, rfl, GL, GB, GX, GZ, hb'⟩ := hrel
        by_cases hm : 0 < m
        · have hmi : (0 : Int) < (m : Int) := by omega
          have hm4 : (m : Int) < 4 := by omega
          have hm3 : (m : Int) - 1 < 4 := by omega
          have hm3' : (0 : Int) ≤ (m : Int) - 1 := by omega
          obtain ⟨x, hx⟩ : ∃ x, x = g (m - 1) := ⟨_, rfl⟩
          obtain ⟨y, hy⟩ : ∃ y, y = g m := ⟨_, rfl⟩
          obtain ⟨c1, z1⟩ := GX.out (m - 1) (by omega)
          obtain ⟨c2, z2⟩ := GX.out m (by omega)
          rw [← hx] at c1
          rw [← hy] at c2
          have HXY : Hid (x = g (m - 1) ∧ y = g m) := ⟨hx, hy⟩
          clear hx hy
          by_cases hxy : (y : Int) < (x : Int)
          · go_wp2
            go_quiet (fail)
            go_wp2
            go_roundw
            case rel =>
              refine ⟨m - 1, swp g (m - 1), by omega, by go_num, GL.out.swp (by omega), ?_, (GX.out.drewN _).swap hm (by omega) HXY.out.1 HXY.out.2, ((GZ.out.drewN _).other (by simp) _).other (by simp) _, ((below_drewN hb' _).setCell (Nat.le_refl _) _).setCell (Nat.le_refl _) _⟩
              refine But.step (by rw [show m - 1 + 1 = m by omega]; exact GB.out) (by omega) ?_
              rw [show m - 1 + 1 = m by omega, ← HXY.out.1, ← HXY.out.2]
              omega
            case measure => simp [intOf]; omega
          · go_wp2
            go_quiet (fail)
            go_wp2
            go_roundw
            case rel =>
              refine ⟨k + 1, g, by omega, by omega, by go_num, GL, ?_, GX.out.drewN _, GZ.out.drewN _, below_drewN hb' _⟩
              refine But.stop (m := m - 1) (by rw [show m - 1 + 1 = m by omega]; exact GB.out) (by omega) ?_
              rw [show m - 1 + 1 = m by omega, ← HXY.out.1, ← HXY.out.2]
              omega
            case measure => simp [intOf]; omega
        · have hd : decide ((0 : Int) < (m : Int)) = false := by simp; omega
          go_wp2
          go_quiet (fail)
          go_wp2
          go_roundw
          case rel =>
            have GB0 : But g k 0 := by
              have e0 : m = 0 := by omega
              rw [e0] at GB
              exact GB.out
            exact ⟨k + 1, g, by omega, by omega, by go_num, GL, GB0.stop0, GX.out.drewN _, GZ.out.drewN _, below_drewN hb' _⟩
          case measure => simp [intOf]; omega
    · have hk4 : k = 4 := by omega
      subst hk4
      obtain ⟨c0, -⟩ := HB.out 0 (by omega)
      obtain ⟨c1, -⟩ := HB.out 1 (by omega)
      obtain ⟨c2, -⟩ := HB.out 2 (by omega)
      obtain ⟨c3, -⟩ := HB.out 3 (by omega)
      obtain ⟨d0, z0⟩ := HZ.out 0 (by omega)
      obtain ⟨d1, z1⟩ := HZ.out 1 (by omega)
      obtain ⟨d2, z2⟩ := HZ.out 2 (by omega)
      obtain ⟨d3, z3⟩ := HZ.out 3 (by omega)
      go_wp2
      refine bodyPost_ret (v := nums f) (by simp [results, Trym.results9, go_sem, *]) rfl ⟨f, rfl, HL.out, HS.out, ?_⟩
      exact (((hb.setCell (by simp) _).setCell (by simp) _).setCell (by simp) _).setCell (by simp) _
end Go.Proofs.Qxb6600582aMods
