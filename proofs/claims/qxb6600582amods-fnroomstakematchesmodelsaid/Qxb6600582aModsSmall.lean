/-
  THE WALKS of the small functions: zzFirstIndex, zzUnchanged, ZZRoomsFree.
-/
import Derived.Test.Qxb6600582aModsRows
import Derived.WalkKit
import Derived.WalkSpells
import Derived.WalkLawsBesides
import Derived.Deep.QuietTactic
import Derived.BigQuiet
namespace Go.Proofs.Qxb6600582aMods
open Go.RowKit

theorem ret_int {k : IntKind} {a b : Int} (h : a = b) : Ending.returned (.int k a) = .returned (.int k b) := by rw [h]
theorem ret_bool {a b : Bool} (h : a = b) : Ending.returned (.bool a) = .returned (.bool b) := by rw [h]

/-- Four numbers as the array value that Go hands over. -/
abbrev nums (N : Nat → Nat) : Value := .agg #[.int .u32 (N 0), .int .u32 (N 1), .int .u32 (N 2), .int .u32 (N 3)]

theorem four {p : Nat → Prop} (h0 : p 0) (h1 : p 1) (h2 : p 2) (h3 : p 3) : ∀ i, i < 4 → p i
  | 0, _ => h0
  | 1, _ => h1
  | 2, _ => h2
  | 3, _ => h3
  | n + 4, h => by omega

set_option maxHeartbeats 400000 in
theorem first_any (N : Nat → Nat) (v : Nat) (hN : ∀ i, i < 4 → N i ≤ 65536) (hv : ∃ i, i < 4 ∧ N i = v) (w : World) :
    Calls Trym.prog 10 #[nums N, .int .u32 v] w fun e w' => ∃ j : Nat, e = .returned (.int .i64 j) ∧ j < 4 ∧ N j = v ∧ (∀ p, p < j → N p ≠ v) ∧ Below w.heap.size w w' := by
  have HV : Hid (∃ i, i < 4 ∧ N i = v) := hv
  have HN : Hid (∀ i, i < 4 → N i ≤ 65536) := hN
  clear hv hN
  go_enter Trym.func10, Trym.ntmps10
  go_wp2
  go_loop [5] (fun i => ∃ k : Nat, k ≤ 4 ∧ i = .int .i64 k ∧ Hid (∀ p, p < k → N p ≠ v)) (fun i => 4 - (intOf i).toNat)
  case atStart => exact ⟨0, by omega, rfl, fun p hp => by omega⟩
  case round =>
    obtain ⟨k, hk, rfl, HP⟩ := hrel
    by_cases hlt : k < 4
    · have hlti : (k : Int) < 4 := by omega
      have hc : (w.alloc (.cells #[.int .u32 (N 0), .int .u32 (N 1), .int .u32 (N 2), .int .u32 (N 3)] 27)).cell? ⟨w.heap.size, k, none⟩ = some (.int .u32 (N k)) :=
        four (p := fun k => (w.alloc (.cells #[.int .u32 (N 0), .int .u32 (N 1), .int .u32 (N 2), .int .u32 (N 3)] 27)).cell? ⟨w.heap.size, k, none⟩ = some (.int .u32 (N k))) (by simp) (by simp) (by simp) (by simp) k hlt
      by_cases hv : N k = v
      · have hv' : (((N k : Nat) : Int) == (v : Int)) = true := by rw [hv]; simp
        have HV2 : Hid (N k = v) := hv
        clear hv
        go_wp2
        go_ret
        exact ⟨k, rfl, hlt, HV2.out, HP.out, (Below.refl _ _).alloc (Nat.le_refl _) _⟩
      · have hv' : (((N k : Nat) : Int) == (v : Int)) = false := by simp; omega
        go_wp2
        go_round
        case rel => exact ⟨k + 1, by omega, by go_num, fun p hp => by by_cases e : p = k; exact e ▸ hv; exact HP.out p (by omega)⟩
        case measure => simp [intOf]; omega
    · obtain ⟨i, hi, e⟩ := HV.out
      exact absurd e (HP.out i (by omega))

/-- Four rooms as the array value that Go hands over. -/
abbrev rooms (A : Nat → Option Addr) (L C : Nat → Nat) : Value := .agg #[.slice (A 0) (L 0) (C 0), .slice (A 1) (L 1) (C 1), .slice (A 2) (L 2) (C 2), .slice (A 3) (L 3) (C 3)]

abbrev numBox (N : Nat → Nat) : Obj := .cells #[.int .u32 (N 0), .int .u32 (N 1), .int .u32 (N 2), .int .u32 (N 3)] 27
abbrev roomBox (A : Nat → Option Addr) (L C : Nat → Nat) : Obj := .cells #[.slice (A 0) (L 0) (C 0), .slice (A 1) (L 1) (C 1), .slice (A 2) (L 2) (C 2), .slice (A 3) (L 3) (C 3)] 29

set_option maxHeartbeats 400000 in
theorem unchanged_any (A : Nat → Option Addr) (L C N : Nat → Nat) (sk : Int) (hN : ∀ i, i < 4 → N i ≤ 65536)
    (hV : ∀ i : Nat, i < 4 → (i : Int) ≠ sk → L i = N i ∧ C i = N i ∧ (A i = none ↔ N i = 0)) (w : World) :
    Calls Trym.prog 11 #[rooms A L C, nums N, .int .i64 sk] w fun e w' => e = .returned (.bool true) ∧ Below w.heap.size w w' := by
  have HV : Hid (∀ i : Nat, i < 4 → (i : Int) ≠ sk → L i = N i ∧ C i = N i ∧ (A i = none ↔ N i = 0)) := hV
  have HN : Hid (∀ i, i < 4 → N i ≤ 65536) := hN
  have hnil := fun (w : World) (a : Option Addr) (n c : Nat) => Lib.run_eql_slice_nil (P := Trym.prog) w 25 5 a n c 0 0 Trym.underlying25
  clear hV hN
  go_enter Trym.func11, Trym.ntmps11
  go_wp2
  go_loopw [7] (fun i wr => ∃ k : Nat, k ≤ 4 ∧ i = .int .i64 k ∧ ∃ n, wr = ((w.alloc (roomBox A L C)).alloc (numBox N)).drewN n) (fun i _ => 4 - (intOf i).toNat)
  case atStart => exact ⟨0, by omega, rfl, 0, rfl⟩
  case round =>
    obtain ⟨k, hk, rfl, n, rfl⟩ := hrel
    by_cases hlt : k < 4
    · have hlti : (k : Int) < 4 := by omega
      by_cases hsk : (k : Int) = sk
      · have hsk' : ((k : Int) == sk) = true := by simpa using hsk
        clear hsk
        go_wp2
        go_roundw
        case rel => exact ⟨k + 1, by omega, by go_num, n, rfl⟩
        case measure => simp [intOf]; omega
      · have hsk' : ((k : Int) == sk) = false := by simpa using hsk
        obtain ⟨e1, e2, e3⟩ := HV.out k hlt hsk
        have hNk := HN.out k hlt
        have hc1 : ((w.alloc (roomBox A L C)).alloc (numBox N)).cell? ⟨w.heap.size, k, none⟩ = some (.slice (A k) (L k) (C k)) :=
          four (p := fun k => ((w.alloc (roomBox A L C)).alloc (numBox N)).cell? ⟨w.heap.size, k, none⟩ = some (.slice (A k) (L k) (C k))) (by simp) (by simp) (by simp) (by simp) k hlt
        have hc2 : ((w.alloc (roomBox A L C)).alloc (numBox N)).cell? ⟨w.heap.size + 1, k, none⟩ = some (.int .u32 (N k)) :=
          four (p := fun k => ((w.alloc (roomBox A L C)).alloc (numBox N)).cell? ⟨w.heap.size + 1, k, none⟩ = some (.int .u32 (N k))) (by simp) (by simp) (by simp) (by simp) k hlt
        rw [e1, e2] at hc1
        clear e1 e2 hsk
        obtain ⟨a, ha⟩ : ∃ a, a = A k := ⟨_, rfl⟩
        obtain ⟨m, hm⟩ : ∃ m, m = N k := ⟨_, rfl⟩
        rw [← ha, ← hm] at hc1
        rw [← hm] at hc2 hNk
        rw [← ha, ← hm] at e3
        clear ha hm
        cases a with
        | none =>
          have hm0 : m = 0 := e3.1 rfl
          subst hm0
          clear e3
          go_wp2
          go_quiet (fail)
          go_wp2
          go_quiet (fail)
          go_wp2
          go_roundw
          case rel => exact ⟨k + 1, by omega, by go_num, _, rfl⟩
          case measure => simp [intOf]; omega
        | some x =>
          have hm0 : ((m : Int) == 0) = false := by
            have : m ≠ 0 := fun e => by simpa using e3.2 e
            simp; omega
          clear e3
          go_wp2
          go_quiet (fail)
          go_wp2
          go_quiet (fail)
          go_wp2
          go_roundw
          case rel => exact ⟨k + 1, by omega, by go_num, _, rfl⟩
          case measure => simp [intOf]; omega
    · go_wp2
      go_ret
      exact ⟨rfl, below_drewN (((Below.refl _ _).alloc (Nat.le_refl _) _).alloc (by simp) _) n⟩
end Go.Proofs.Qxb6600582aMods
