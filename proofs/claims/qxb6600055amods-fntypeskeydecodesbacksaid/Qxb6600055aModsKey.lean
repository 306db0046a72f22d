/-
  THE WALKS that the laws of the seat share: the copy of a slice of 16-bit numbers, and the key of such a slice.
-/
import Derived.Test.Qxb6600055aModsRows
import Derived.Test.Qxb6600055aModsPlain
import Derived.WalkKit
import Derived.WalkSpells
import Derived.WalkLawsBesides
import Derived.Laws.BytesArg
import Derived.Deep.QuietTactic
import Derived.BigQuiet
namespace Go.Proofs.Qxb6600055aMods
open Go.RowKit Plain

theorem Trym.info5 : (Trym.prog.info? 5).map (fun i => (i.zero, i.size, i.bytes)) = some (some (.int .u8 0), 1, 1) := by kernel_rfl
theorem Trym.info27 : (Trym.prog.info? 27).map (fun i => (i.zero, i.size, i.bytes)) = some (some (.int .u16 0), 1, 2) := by kernel_rfl

/-- The slice value '.slice a xs.length c' holds the numbers xs in the world w. -/
def Holds (w : World) (a : Option Addr) (xs : List Int) : Prop :=
  ∀ i, i < xs.length → ∃ b off, a = some ⟨b, off, none⟩ ∧ b < w.heap.size ∧ w.cell? ⟨b, off + i, none⟩ = some (.int .u16 (xs.getD i 0))

theorem Holds.later {w w' : World} {a : Option Addr} {xs : List Int} (h : Holds w a xs) {B : Nat} (hb : Below B w w') (hB : w.heap.size ≤ B) : Holds w' a xs := by
  intro i hi
  obtain ⟨b, off, e, hlt, hc⟩ := h i hi
  exact ⟨b, off, e, Nat.lt_of_lt_of_le hlt hb.size, (hb.cell (p := ⟨b, off + i, none⟩) (Nat.lt_of_lt_of_le hlt hB)).trans hc⟩

theorem kn_next (xs : List Int) (k : Nat) (h : k < xs.length) : kn (xs.take (k + 1)) = kn (xs.take k) ++ [xs.getD k 0 / 256, xs.getD k 0 % 256] := by
  rw [List.take_succ_eq_append_getElem h, kn_append]
  simp [kn, List.getD, List.getElem?_eq_getElem h]

set_option maxHeartbeats 400000 in
theorem typesKey_any (a : Option Addr) (xs : List Int) (c : Nat) (w : World) (hl : xs.length ≤ 65536) (hu : u16s xs) (h : Holds w a xs) :
    Calls Trym.prog 28 #[.slice a xs.length c] w fun e w' => e = .returned (.string (strOfNums (kn xs))) ∧ Below w.heap.size w w' := by
  obtain ⟨i0, hi, hz0, hz1, hz2⟩ := info_parts Trym.info5
  have H : Hid (Holds w a xs) := h
  have HU : Hid (u16s xs) := hu
  clear h hu
  go_enter Trym.func28, Trym.ntmps28
  go_wp2_with (at_make; refine wpList_make_own _ rfl _ _ 48 rfl w.heap.size 5 i0 (.int .u8 0) 1 Trym.underlying48 hi hz0 hz1 _ _ _ (2 * xs.length) rfl rfl ?m1 ?m2 ?m3 ?m4 ?_)
  case m1 => omega
  case m2 => rw [hz2]; omega
  case m3 => unfold maxLen; omega
  case m4 => exact Nat.le_refl _
  intro w1 hown hgrow
  have hb1 : Below w.heap.size w w1 := (Below.refl _ _).grown hgrow (Nat.le_refl _) (fun k h => by cases h)
  clear hgrow
  go_wp2
  go_loopw [3, 12] (fun v i wr => ∃ k : Nat, k ≤ xs.length ∧ i = .int .i64 k ∧ v = .slice (some ⟨w.heap.size, 0, none⟩) (2 * k) (2 * xs.length) ∧ wr.ownsRow w.heap.size 5 1 (.slice (some ⟨w.heap.size, 0, none⟩) (2 * k) (2 * xs.length)) (2 * k) ((kn (xs.take k)).map (Value.int .u8)) ∧ Below w.heap.size w wr) (fun _ i _ => xs.length - (intOf i).toNat)
  case atStart => exact ⟨0, Nat.zero_le _, rfl, rfl, by simpa [kn] using hown, hb1⟩
  case round =>
    clear hown hb1
    obtain ⟨k, hk, rfl, rfl, hown, hb⟩ := hrel
    by_cases hlt : k < xs.length
    · obtain ⟨b, off, rfl, hbl, hc0⟩ := H.out k hlt
      have hlti : (k : Int) < xs.length := by omega
      obtain ⟨t, ht⟩ : ∃ t, t = xs.getD k 0 := ⟨_, rfl⟩
      have htb : 0 ≤ t ∧ t ≤ 65535 := by rw [ht]; exact HU.out _ (by simp [List.getD, List.getElem?_eq_getElem hlt])
      have hc : wr.cell? ⟨b, off + k, none⟩ = some (.int .u16 t) := by rw [ht, hb.cell (p := ⟨b, off + k, none⟩) hbl]; exact hc0
      have HT : Hid (t = xs.getD k 0) := ht
      clear ht hc0
      obtain ⟨ht0, ht1⟩ := htb
      go_wp2_with (at_builtin; refine wpList_append_fits _ rfl (.tmp 16) (.tmp 22) 48 rfl w.heap.size 5 i0 1 Trym.underlying48 hi hz1 w.heap.size (2 * k) (2 * xs.length) _ rfl (hown.alloc _) ⟨wr.heap.size, 0, none⟩ 2 2 [.int .u8 (t / 256), .int .u8 (t % 256)] rfl rfl ?c1 ?c2 ?c3 ?_)
      case c1 => exact cell_two_new _ _ _ _
      case c2 => intro u hu; simp at hu; rcases hu with rfl | rfl <;> rfl
      case c3 => omega
      intro w2 hown2 hg2
      have hb2 : Below w.heap.size w w2 := (hb.alloc hb.size _).grown hg2 (by have := hb.size; simp; omega) (fun g hg => by cases hg; exact Nat.le_refl _)
      clear hown hb hg2
      have E : Hid ((kn (xs.take (k + 1))).map (Value.int .u8) = (kn (xs.take k)).map (Value.int .u8) ++ [.int .u8 (t / 256), .int .u8 (t % 256)]) := by
        unfold Hid; rw [kn_next xs k hlt, ← HT.out]; simp
      go_wp2
      go_roundw
      case rel => exact ⟨k + 1, by omega, by go_num, by rw [Nat.mul_add], by rw [E.out, Nat.mul_add]; exact hown2, hb2⟩
      case measure => simp [intOf]; omega
    · have hks : k = xs.length := by omega
      subst hks
      have hcv : (convert 48 9 (Value.slice (some ⟨w.heap.size, 0, none⟩) (2 * xs.length) (2 * xs.length))).run Trym.prog wr = .ok (.string (strOfNums (kn xs))) wr := by
        refine run_convert_bytes_arg wr 48 5 Trym.underlying48 Trym.underlying5 w.heap.size 0 _ _ (kn xs) (kn_len xs) ?_ 9 Trym.underlying9
        intro i hi
        have hc := hown.cellAt i (by omega)
        rw [List.take_length] at hc
        rw [Nat.zero_add, hc]
        have : i < (kn xs).length := by rw [kn_len]; exact hi
        simp [List.getElem?_eq_getElem this]
      go_wp2
      go_ret
      exact ⟨rfl, hb⟩

/-- The exported name of typesKey. -/
theorem key_any (a : Option Addr) (xs : List Int) (c : Nat) (w : World) (hl : xs.length ≤ 65536) (hu : u16s xs) (h : Holds w a xs) :
    Calls Trym.prog 11 #[.slice a xs.length c] w fun e w' => e = .returned (.string (strOfNums (kn xs))) ∧ Below w.heap.size w w' := by
  have HC : Hid (Calls Trym.prog 28 #[.slice a xs.length c] w fun e w' => e = .returned (.string (strOfNums (kn xs))) ∧ Below w.heap.size w w') := typesKey_any a xs c w hl hu h
  clear hu h
  go_enter Trym.func11, Trym.ntmps11
  go_wp2_with fail
  refine HC.out.mono ?_
  rintro e w' ⟨rfl, hb⟩
  go_wp2
  go_ret
  exact ⟨rfl, hb⟩

set_option maxHeartbeats 400000 in
/-- The copy: nil stays nil; else a row of the call's own. -/
theorem clone_any (a : Option Addr) (xs : List Int) (c : Nat) (w : World) (hl : xs.length ≤ 65536) (h : Holds w a xs) (hn : a = none → xs = []) :
    Calls Trym.prog 10 #[.slice a xs.length c] w fun e w' => ∃ a' c', e = .returned (.slice a' xs.length c') ∧ Holds w' a' xs ∧ Below w.heap.size w w' ∧
      ((a' = none ∧ c' = 0 ∧ xs = []) ∨ ∃ g, a' = some ⟨g, 0, none⟩ ∧ c' = xs.length) := by
  have hnil := fun (w : World) (a : Option Addr) (n c : Nat) => Lib.run_eql_slice_nil (P := Trym.prog) w 22 27 a n c 0 0 Trym.underlying22
  cases a with
  | none =>
    obtain rfl := hn rfl
    go_enter Trym.func10, Trym.ntmps10
    go_wp2
    go_ret
    exact ⟨none, 0, rfl, fun i hi => by simp at hi, Below.refl _ _, .inl (by simp)⟩
  | some x =>
    obtain ⟨i0, hi, hz0, hz1, hz2⟩ := info_parts Trym.info27
    have H : Hid (Holds w (some x) xs) := h
    clear h hn
    go_enter Trym.func10, Trym.ntmps10
    go_wp2_with (at_make; refine wpList_make_full _ rfl _ _ 22 rfl w.heap.size 27 i0 (.int .u16 0) 1 Trym.underlying22 hi hz0 hz1 _ _ _ _ xs.length rfl rfl rfl rfl ?m2 ?m3 ?m4 ?_)
    case m2 => rw [hz2]; omega
    case m3 => unfold maxLen; omega
    case m4 => exact Nat.le_refl _
    intro w1 hown hgrow
    have hb1 : Below w.heap.size w w1 := (Below.refl _ _).grown hgrow (Nat.le_refl _) (fun k h => by cases h)
    clear hgrow
    go_wp2
    go_loopw [4] (fun i wr => ∃ k : Nat, k ≤ xs.length ∧ i = .int .i64 k ∧ Below w.heap.size w wr ∧ ∃ ys : List Value, wr.ownsRow w.heap.size 27 1 (.slice (some ⟨w.heap.size, 0, none⟩) xs.length xs.length) xs.length ys ∧ Hid (∀ j, j < k → ys[j]? = some (.int .u16 (xs.getD j 0)))) (fun i _ => xs.length - (intOf i).toNat)
    case atStart => exact ⟨0, Nat.zero_le _, rfl, hb1, _, hown, fun j hj => by omega⟩
    case round =>
      clear hown hb1
      obtain ⟨k, hk, rfl, hb, ys, hown, HY⟩ := hrel
      by_cases hlt : k < xs.length
      · obtain ⟨b, off, hx, hbl, hc0⟩ := H.out k hlt
        obtain rfl := Option.some.inj hx
        clear hx
        have hlti : (k : Int) < xs.length := by omega
        obtain ⟨t, ht⟩ : ∃ t, t = xs.getD k 0 := ⟨_, rfl⟩
        have hc : wr.cell? ⟨b, off + k, none⟩ = some (.int .u16 t) := by rw [ht, hb.cell (p := ⟨b, off + k, none⟩) hbl]; exact hc0
        have HT : Hid (t = xs.getD k 0) := ht
        clear ht hc0
        have hfz := hown.frozenAt k
        have hyl : ys.length = xs.length := by simpa using hown.1
        obtain ⟨u, hu⟩ : ∃ u, wr.cell? ⟨w.heap.size, k, none⟩ = some u := by
          rw [hown.cellAt k (by omega)]
          exact ⟨ys[k], List.getElem?_eq_getElem (by omega)⟩
        go_wp2
        go_roundw
        case rel =>
          refine ⟨k + 1, by omega, by go_num, hb.setCell (Nat.le_refl _) _, ys.set k (.int .u16 t), (hown.stored k _).1, ?_⟩
          intro j hj
          by_cases hjk : j = k
          · subst hjk
            rw [List.getElem?_set_self (by omega), HT.out]
          · rw [List.getElem?_set_ne (by omega)]
            exact HY.out j (by omega)
        case measure => simp [intOf]; omega
      · have hks : k = xs.length := by omega
        subst hks
        go_wp2
        go_ret
        refine ⟨_, _, rfl, ?_, hb, .inr ⟨_, rfl, rfl⟩⟩
        intro i hi
        refine ⟨w.heap.size, 0, rfl, (hown.lt _ rfl).2, ?_⟩
        rw [Nat.zero_add, hown.cellAt i (by omega), HY.out i hi]
end Go.Proofs.Qxb6600055aMods
