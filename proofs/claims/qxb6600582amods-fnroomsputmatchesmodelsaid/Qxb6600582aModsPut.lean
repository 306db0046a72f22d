/-
  THE WALK of (*rooms).put, with ZZPut.
-/
import Derived.Test.Qxb6600582aModsTake
import Derived.RegionTactic
import Derived.BigRegion
namespace Go.Proofs.Qxb6600582aMods
open Go.RowKit

/-- The place of the least room among the first k, the first such. -/
def sml (N : Nat → Nat) : Nat → Nat
  | 0 => 0
  | k + 1 => if N k < N (sml N k) then k else sml N k

theorem sml_lt (N : Nat → Nat) : ∀ k, k ≤ 4 → sml N k < 4
  | 0, _ => by simp [sml]
  | k + 1, h => by
    have := sml_lt N k (by omega)
    unfold sml
    split <;> omega

/-- What 'put' of a room of m does. -/
def Kept (N : Nat → Nat) (A : Nat → Option Addr) (m B : Nat) (w w' : World) : Prop :=
  (¬ N (sml N 4) < m ∧ Rms w' B A N N ∧ Below B w w') ∨
  (N (sml N 4) < m ∧ ∃ a, Rms w' B (upd A (sml N 4) a) (upd N (sml N 4) 0) (upd N (sml N 4) m) ∧ Below B w w')

set_option maxHeartbeats 800000 in
theorem put_any (B : Nat) (A : Nat → Option Addr) (N : Nat → Nat) (x : Option Addr) (m : Nat) (w : World) (hN : ∀ i, i < 4 → N i ≤ 65536) (hm : m ≤ 65536) (h : Rms w B A N N) :
    Calls Trym.prog 16 #[.pointer (some ⟨B, 0, none⟩), .slice x m m] w fun e w' => e = .returned (.tuple #[]) ∧ Kept N A m B w w' := by
  have HN : Hid (∀ i, i < 4 → N i ≤ 65536) := hN
  have HR : Hid (Rms w B A N N) := h
  clear hN h
  go_enter Trym.func16, Trym.ntmps16
  go_wp2
  go_loopw [4, 13] (fun s i wr => ∃ k : Nat, k ≤ 4 ∧ i = .int .i64 k ∧ s = .int .i64 (sml N k : Nat) ∧ ∃ n, wr = w.drewN n) (fun _ i _ => 4 - (intOf i).toNat)
  case atStart => exact ⟨0, by omega, rfl, rfl, 0, rfl⟩
  case round =>
    obtain ⟨k, hk, rfl, rfl, n, rfl⟩ := hrel
    have hs := sml_lt N k hk
    obtain ⟨s, hse⟩ : ∃ s, s = sml N k := ⟨_, rfl⟩
    have HS : Hid (s = sml N k) := hse
    rw [← hse]
    rw [← hse] at hs
    clear hse
    have hsi : (s : Int) < 4 := by omega
    obtain ⟨cs, zs⟩ := HR.out s hs
    have hNs := HN.out s hs
    by_cases hlt : k < 4
    · have hlti : (k : Int) < 4 := by omega
      have hNk := HN.out k hlt
      obtain ⟨ck, -⟩ := HR.out k hlt
      by_cases hl : (N k : Int) < (N s : Int)
      · have E : Hid (sml N (k + 1) = k) := if_pos (by rw [← HS.out]; omega)
        go_wp2
        go_quiet (fail)
        go_wp2
        go_roundw
        case rel => exact ⟨k + 1, by omega, by go_num, by rw [E.out], _, rfl⟩
        case measure => simp [intOf]; omega
      · have E : Hid (sml N (k + 1) = s) := (if_neg (by rw [← HS.out]; omega)).trans HS.out.symm
        go_wp2
        go_quiet (fail)
        go_wp2
        go_roundw
        case rel => exact ⟨k + 1, by omega, by go_num, by rw [E.out], _, rfl⟩
        case measure => simp [intOf]; omega
    · have hk4 : k = 4 := by omega
      subst hk4
      by_cases hl : (N s : Int) < (m : Int)
      · go_wp2
        go_region
        all_goals go_end0
        refine ⟨rfl, .inr ⟨by rw [← HS.out]; omega, x, ?_, (below_drewN (Below.refl B w) (n + 1)).setCell (p := ⟨B, s, none⟩) (Nat.le_refl B) _⟩⟩
        rw [← HS.out]
        have R0 : Rms (w.drewN (n + 1)) B A N N := HR.out
        have R := R0.set (k := s) (A' := upd A s x) (L' := upd N s 0) (C' := upd N s m) hs (fun i _ e => (upd_off A e _).symm) (fun i _ e => (upd_off N e _).symm) (fun i _ e => (upd_off N e _).symm)
        rw [upd_at, upd_at, upd_at] at R
        exact R
      · go_wp2
        go_end0
        exact ⟨rfl, .inl ⟨by rw [← HS.out]; omega, HR.out, below_drewN (Below.refl _ _) n⟩⟩

theorem zzput_any (B : Nat) (A : Nat → Option Addr) (N : Nat → Nat) (x : Option Addr) (m : Nat) (w : World) (hN : ∀ i, i < 4 → N i ≤ 65536) (hm : m ≤ 65536) (h : Rms w B A N N) :
    Calls Trym.prog 12 #[.pointer (some ⟨B, 0, none⟩), .slice x m m] w fun e w' => e = .returned (.tuple #[]) ∧ Kept N A m B w w' := by
  have HC : Hid (Calls Trym.prog 16 #[.pointer (some ⟨B, 0, none⟩), .slice x m m] w fun e w' => e = .returned (.tuple #[]) ∧ Kept N A m B w w') := put_any B A N x m w hN hm h
  clear hN h
  go_enter Trym.func12, Trym.ntmps12
  go_wp2_with fail
  refine HC.out.mono ?_
  rintro e w' ⟨rfl, hk⟩
  have HK : Hid (Kept N A m B w w') := hk
  clear hk
  go_wp2
  go_end0
  exact ⟨rfl, HK.out⟩

end Go.Proofs.Qxb6600582aMods
