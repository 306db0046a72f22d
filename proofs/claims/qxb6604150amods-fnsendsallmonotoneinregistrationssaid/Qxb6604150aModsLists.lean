/-
  THE WALKS over lists of strings: the bound, the count, the copy, the concatenation.
-/
import Derived.Test.Qxb6604150aModsRows
import Derived.WalkKit
import Derived.WalkSpells
import Derived.WalkLawsBesides
namespace Go.Proofs.Qxb6604150aMods
open Go.RowKit

theorem Trym.info9 : (Trym.prog.info? 9).map (fun i => (i.zero, i.size, i.bytes)) = some (some (.string ⟨#[]⟩), 1, 16) := by kernel_rfl

/-- The slice value '.slice a xs.length c' holds the strings xs in the world w. -/
def Holds (w : World) (a : Option Addr) (xs : List ByteArray) : Prop :=
  ∀ i, i < xs.length → ∃ b off, a = some ⟨b, off, none⟩ ∧ b < w.heap.size ∧ w.cell? ⟨b, off + i, none⟩ = some (.string (xs.getD i ByteArray.empty))

theorem Holds.later {w w' : World} {a : Option Addr} {xs : List ByteArray} (h : Holds w a xs) {B : Nat} (hb : Below B w w') (hB : w.heap.size ≤ B) : Holds w' a xs := by
  intro i hi
  obtain ⟨b, off, e, hlt, hc⟩ := h i hi
  exact ⟨b, off, e, Nat.lt_of_lt_of_le hlt hb.size, (hb.cell (p := ⟨b, off + i, none⟩) (Nat.lt_of_lt_of_le hlt hB)).trans hc⟩

set_option maxHeartbeats 800000 in
/-- zzListBytes: whatever it answers, it turns nothing. -/
theorem count_any (a : Option Addr) (xs : List ByteArray) (c : Nat) (w : World) (hl : xs.length ≤ 9223372036854775807) (hs : ∀ x ∈ xs, x.size ≤ 9223372036854775807) (h : Holds w a xs) :
    Calls Trym.prog 11 #[.slice a xs.length c] w fun e w' => (∃ z, e = .returned (.int .i64 z)) ∧ w' = w := by
  have H : Hid (Holds w a xs) := h
  have HS : Hid (∀ x ∈ xs, x.size ≤ 9223372036854775807) := hs
  clear h hs
  by_cases hb : xs.length ≤ 65536
  · go_enter Trym.func11, Trym.ntmps11
    go_wp2
    go_loop [3, 4] (fun n i => ∃ (k : Nat) (z : Int), k ≤ xs.length ∧ i = .int .i64 k ∧ n = .int .i64 z ∧ 0 ≤ z ∧ z ≤ 1048576) (fun _ i => xs.length - (intOf i).toNat)
    case atStart => exact ⟨0, _, Nat.zero_le _, rfl, rfl, by omega, by omega⟩
    case round =>
      obtain ⟨k, z, hk, rfl, rfl, hz0, hz1⟩ := hrel
      by_cases hlt : k < xs.length
      · obtain ⟨b, off, rfl, _, hc⟩ := H.out k hlt
        have hlti : (k : Int) < xs.length := by omega
        have hsz : (xs.getD k ByteArray.empty).size ≤ 9223372036854775807 := HS.out _ (by simp [List.getD, List.getElem?_eq_getElem hlt])
        obtain ⟨s, hse⟩ : ∃ s, s = xs.getD k ByteArray.empty := ⟨_, rfl⟩
        rw [← hse] at hc hsz
        clear hse
        go_wp2
        all_goals first
          | (go_ret; exact ⟨⟨_, rfl⟩, rfl⟩)
          | (go_round
             case rel => exact ⟨k + 1, _, by omega, by go_num, rfl, by omega, by omega⟩
             case measure => simp [intOf]; omega)
      · go_wp2
        go_ret
        exact ⟨⟨_, rfl⟩, rfl⟩
  · go_enter Trym.func11, Trym.ntmps11
    go_wp2
    go_ret
    exact ⟨⟨_, rfl⟩, rfl⟩

/-- Some Bool is returned. -/
def IsBool (e : Ending) : Prop := ∃ b, e = .returned (.bool b)

set_option maxHeartbeats 1600000 in
/-- The bound on the total length: whatever it answers, it turns nothing. -/
theorem bound_any (a0 a1 a2 : Option Addr) (x0 x1 x2 : List ByteArray) (c0 c1 c2 : Nat) (w : World) (l0 : x0.length ≤ 9223372036854775807) (l1 : x1.length ≤ 9223372036854775807) (l2 : x2.length ≤ 9223372036854775807)
    (s0 : ∀ x ∈ x0, x.size ≤ 9223372036854775807) (s1 : ∀ x ∈ x1, x.size ≤ 9223372036854775807) (s2 : ∀ x ∈ x2, x.size ≤ 9223372036854775807) (h0 : Holds w a0 x0) (h1 : Holds w a1 x1) (h2 : Holds w a2 x2) :
    Calls Trym.prog 10 #[.slice a0 x0.length c0, .slice a1 x1.length c1, .slice a2 x2.length c2] w fun e w' => IsBool e ∧ w' = w := by
  obtain ⟨H0, H1, H2⟩ : Hid (Holds w a0 x0) ∧ Hid (Holds w a1 x1) ∧ Hid (Holds w a2 x2) := ⟨h0, h1, h2⟩
  obtain ⟨S0, S1, S2⟩ : Hid (∀ x ∈ x0, x.size ≤ 9223372036854775807) ∧ Hid (∀ x ∈ x1, x.size ≤ 9223372036854775807) ∧ Hid (∀ x ∈ x2, x.size ≤ 9223372036854775807) := ⟨s0, s1, s2⟩
  clear h0 h1 h2 s0 s1 s2
  go_enter Trym.func10, Trym.ntmps10
  go_wp2
  all_goals (try (go_ret; exact ⟨⟨_, rfl⟩, rfl⟩))
  go_loop [7, 8] (fun n i => ∃ (k : Nat) (z : Int), k ≤ x0.length ∧ i = .int .i64 k ∧ n = .int .i64 z ∧ 0 ≤ z ∧ z ≤ 1048576) (fun _ i => x0.length - (intOf i).toNat)
  case atStart => exact ⟨0, _, Nat.zero_le _, rfl, rfl, by omega, by omega⟩
  case round =>
    obtain ⟨k, z, hk, rfl, rfl, hz0, hz1⟩ := hrel
    by_cases hlt : k < x0.length
    · obtain ⟨b, off, rfl, _, hc⟩ := H0.out k hlt
      have hlti : (k : Int) < x0.length := by omega
      have hsz : (x0.getD k ByteArray.empty).size ≤ 9223372036854775807 := S0.out _ (by simp [List.getD, List.getElem?_eq_getElem hlt])
      obtain ⟨s, hse⟩ : ∃ s, s = x0.getD k ByteArray.empty := ⟨_, rfl⟩
      rw [← hse] at hc hsz
      clear hse
      go_wp2
      all_goals first
        | (go_ret; exact ⟨⟨_, rfl⟩, rfl⟩)
        | (go_round
           case rel => exact ⟨k + 1, _, by omega, by go_num, rfl, by omega, by omega⟩
           case measure => simp [intOf]; omega)
    · go_wp2
      all_goals (try (go_ret; exact ⟨⟨_, rfl⟩, rfl⟩))
      clear hlt hk H0 S0
      go_loop [7, 9] (fun n i => ∃ (k : Nat) (z : Int), k ≤ x1.length ∧ i = .int .i64 k ∧ n = .int .i64 z ∧ 0 ≤ z ∧ z ≤ 1048576) (fun _ i => x1.length - (intOf i).toNat)
      case atStart => exact ⟨0, _, Nat.zero_le _, rfl, rfl, by omega, by omega⟩
      case round =>
        obtain ⟨k, z, hk, rfl, rfl, hz0, hz1⟩ := hrel
        by_cases hlt : k < x1.length
        · obtain ⟨b, off, rfl, _, hc⟩ := H1.out k hlt
          have hlti : (k : Int) < x1.length := by omega
          have hsz : (x1.getD k ByteArray.empty).size ≤ 9223372036854775807 := S1.out _ (by simp [List.getD, List.getElem?_eq_getElem hlt])
          obtain ⟨s, hse⟩ : ∃ s, s = x1.getD k ByteArray.empty := ⟨_, rfl⟩
          rw [← hse] at hc hsz
          clear hse
          go_wp2
          all_goals first
            | (go_ret; exact ⟨⟨_, rfl⟩, rfl⟩)
            | (go_round
               case rel => exact ⟨k + 1, _, by omega, by go_num, rfl, by omega, by omega⟩
               case measure => simp [intOf]; omega)
        · go_wp2
          all_goals (try (go_ret; exact ⟨⟨_, rfl⟩, rfl⟩))
          clear hlt hk H1 S1
          go_loop [7, 10] (fun n i => ∃ (k : Nat) (z : Int), k ≤ x2.length ∧ i = .int .i64 k ∧ n = .int .i64 z ∧ 0 ≤ z ∧ z ≤ 1048576) (fun _ i => x2.length - (intOf i).toNat)
          case atStart => exact ⟨0, _, Nat.zero_le _, rfl, rfl, by omega, by omega⟩
          case round =>
            obtain ⟨k, z, hk, rfl, rfl, hz0, hz1⟩ := hrel
            by_cases hlt : k < x2.length
            · obtain ⟨b, off, rfl, _, hc⟩ := H2.out k hlt
              have hlti : (k : Int) < x2.length := by omega
              have hsz : (x2.getD k ByteArray.empty).size ≤ 9223372036854775807 := S2.out _ (by simp [List.getD, List.getElem?_eq_getElem hlt])
              obtain ⟨s, hse⟩ : ∃ s, s = x2.getD k ByteArray.empty := ⟨_, rfl⟩
              rw [← hse] at hc hsz
              clear hse
              go_wp2
              all_goals first
                | (go_ret; exact ⟨⟨_, rfl⟩, rfl⟩)
                | (go_round
                   case rel => exact ⟨k + 1, _, by omega, by go_num, rfl, by omega, by omega⟩
                   case measure => simp [intOf]; omega)
            · go_wp2
              go_ret
              exact ⟨⟨_, rfl⟩, rfl⟩

/-- A slice of these strings is returned; nothing old has turned. -/
def Gives (xs : List ByteArray) (w : World) (e : Ending) (w' : World) : Prop := ∃ a' c', e = .returned (.slice a' xs.length c') ∧ Holds w' a' xs ∧ Below w.heap.size w w'

set_option maxHeartbeats 400000 in
/-- The copy: nil stays nil; else a row of the call's own. -/
theorem clone_any (a : Option Addr) (xs : List ByteArray) (c : Nat) (w : World) (hl : xs.length ≤ 4096) (h : Holds w a xs) (hn : a = none → xs = []) :
    Calls Trym.prog 12 #[.slice a xs.length c] w fun e w' => Gives xs w e w' := by
  have hnil := fun (w : World) (a : Option Addr) (n c : Nat) => Lib.run_eql_slice_nil (P := Trym.prog) w 26 9 a n c 0 0 Trym.underlying26
  cases a with
  | none =>
    obtain rfl := hn rfl
    go_enter Trym.func12, Trym.ntmps12
    go_wp2
    go_ret
    exact ⟨none, 0, rfl, fun i hi => by simp at hi, Below.refl _ _⟩
  | some x =>
    obtain ⟨i0, hi, hz0, hz1, hz2⟩ := info_parts Trym.info9
    have H : Hid (Holds w (some x) xs) := h
    clear h hn
    go_enter Trym.func12, Trym.ntmps12
    go_wp2_with (at_make; refine wpList_make_full _ rfl _ _ 26 rfl w.heap.size 9 i0 (.string ⟨#[]⟩) 1 Trym.underlying26 hi hz0 hz1 _ _ _ _ xs.length rfl rfl rfl rfl ?m2 ?m3 (Nat.le_refl _) ?_)
    case m2 => rw [hz2]; omega
    case m3 => unfold maxLen; omega
    intro w1 hown hgrow
    have hb1 : Below w.heap.size w w1 := (Below.refl _ _).grown hgrow (Nat.le_refl _) (fun k h => by cases h)
    clear hgrow
    go_wp2
    go_loopw [4] (fun i wr => ∃ k : Nat, k ≤ xs.length ∧ i = .int .i64 k ∧ Below w.heap.size w wr ∧ ∃ ys : List Value, wr.ownsRow w.heap.size 9 1 (.slice (some ⟨w.heap.size, 0, none⟩) xs.length xs.length) xs.length ys ∧ Hid (∀ j, j < k → ys[j]? = some (.string (xs.getD j ByteArray.empty)))) (fun i _ => xs.length - (intOf i).toNat)
    case atStart => exact ⟨0, Nat.zero_le _, rfl, hb1, _, hown, fun j hj => by omega⟩
    case round =>
      clear hown hb1
      obtain ⟨k, hk, rfl, hb, ys, hown, HY⟩ := hrel
      by_cases hlt : k < xs.length
      · obtain ⟨b, off, hx, hbl, hc0⟩ := H.out k hlt
        obtain rfl := Option.some.inj hx
        clear hx
        have hlti : (k : Int) < xs.length := by omega
        obtain ⟨t, ht⟩ : ∃ t, t = xs.getD k ByteArray.empty := ⟨_, rfl⟩
        have hc : wr.cell? ⟨b, off + k, none⟩ = some (.string t) := by rw [ht, hb.cell (p := ⟨b, off + k, none⟩) hbl]; exact hc0
        have HT : Hid (t = xs.getD k ByteArray.empty) := ht
        clear ht hc0
        have hfz := hown.frozenAt k
        have hyl : ys.length = xs.length := by simpa using hown.1
        obtain ⟨u, hu⟩ : ∃ u, wr.cell? ⟨w.heap.size, k, none⟩ = some u := by
          rw [hown.cellAt k (by omega)]
          exact ⟨ys[k], List.getElem?_eq_getElem (by omega)⟩
        go_wp2
        go_roundw
        case rel =>
          refine ⟨k + 1, by omega, by go_num, hb.setCell (Nat.le_refl _) _, ys.set k (.string t), (hown.stored k _).1, ?_⟩
          intro j hj
          by_cases hjk : j = k
          · subst hjk
            rw [List.getElem?_set_self (by omega), HT.out]
          · rw [List.getElem?_set_ne (by omega)]
            exact HY.out j (by omega)
        case measure => simp [intOf]; omega
      · have hks : k = xs.length := by omega
        subst hks
        go_wp2
        go_ret
        refine ⟨_, _, rfl, ?_, hb⟩
        intro i hi
        refine ⟨w.heap.size, 0, rfl, (hown.lt _ rfl).2, ?_⟩
        rw [Nat.zero_add, hown.cellAt i (by omega), HY.out i hi]

theorem take_next (xs : List ByteArray) (k : Nat) (h : k < xs.length) : xs.take (k + 1) = xs.take k ++ [xs.getD k ByteArray.empty] := by
  rw [List.take_succ_eq_append_getElem h]
  simp [List.getD, List.getElem?_eq_getElem h]

set_option maxHeartbeats 800000 in
/-- The concatenation: a row of the call's own. -/
theorem concat_any (a1 a2 : Option Addr) (xs ys : List ByteArray) (c1 c2 : Nat) (w : World) (hl1 : xs.length ≤ 4096) (hl2 : ys.length ≤ 4096) (h1 : Holds w a1 xs) (h2 : Holds w a2 ys) :
    Calls Trym.prog 13 #[.slice a1 xs.length c1, .slice a2 ys.length c2] w fun e w' => Gives (xs ++ ys) w e w' := by
  obtain ⟨i0, hi, hz0, hz1, hz2⟩ := info_parts Trym.info9
  obtain ⟨H1, H2⟩ : Hid (Holds w a1 xs) ∧ Hid (Holds w a2 ys) := ⟨h1, h2⟩
  clear h1 h2
  go_enter Trym.func13, Trym.ntmps13
  go_wp2_with (at_make; refine wpList_make_own _ rfl _ _ 26 rfl w.heap.size 9 i0 (.string ⟨#[]⟩) 1 Trym.underlying26 hi hz0 hz1 _ _ _ (xs.length + ys.length) rfl rfl ?m1 ?m2 ?m3 (Nat.le_refl _) ?_)
  case m1 => omega
  case m2 => rw [hz2]; omega
  case m3 => unfold maxLen; omega
  intro w1 hown hgrow
  have hb1 : Below w.heap.size w w1 := (Below.refl _ _).grown hgrow (Nat.le_refl _) (fun k h => by cases h)
  clear hgrow
  go_wp2
  go_loopw [5, 6] (fun v i wr => ∃ k : Nat, k ≤ xs.length ∧ i = .int .i64 k ∧ v = .slice (some ⟨w.heap.size, 0, none⟩) k (xs.length + ys.length) ∧ wr.ownsRow w.heap.size 9 1 (.slice (some ⟨w.heap.size, 0, none⟩) k (xs.length + ys.length)) k ((xs.take k).map Value.string) ∧ Below w.heap.size w wr) (fun _ i _ => xs.length - (intOf i).toNat)
  case atStart => exact ⟨0, Nat.zero_le _, rfl, rfl, by simpa using hown, hb1⟩
  case round =>
    clear hown hb1
    obtain ⟨k, hk, rfl, rfl, hown, hb⟩ := hrel
    by_cases hlt : k < xs.length
    · obtain ⟨b, off, rfl, hbl, hc0⟩ := H1.out k hlt
      have hlti : (k : Int) < xs.length := by omega
      obtain ⟨t, ht⟩ : ∃ t, t = xs.getD k ByteArray.empty := ⟨_, rfl⟩
      have hc : wr.cell? ⟨b, off + k, none⟩ = some (.string t) := by rw [ht, hb.cell (p := ⟨b, off + k, none⟩) hbl]; exact hc0
      have HT : Hid (xs.take (k + 1) = xs.take k ++ [t]) := by rw [ht]; exact take_next xs k hlt
      clear ht hc0
      go_wp2_with (at_builtin; refine wpList_append_fits _ rfl (.tmp 20) (.tmp 25) 26 rfl w.heap.size 9 i0 1 Trym.underlying26 hi hz1 w.heap.size k (xs.length + ys.length) _ rfl (hown.alloc _) ⟨wr.heap.size, 0, none⟩ 1 1 [.string t] rfl rfl ?c1 ?c2 ?c3 ?_)
      case c1 => exact cell_one_new _ _ _
      case c2 => intro u hu; simp at hu; subst hu; rfl
      case c3 => omega
      intro w2 hown2 hg2
      have hb2 : Below w.heap.size w w2 := (hb.alloc hb.size _).grown hg2 (by have := hb.size; simp; omega) (fun g hg => by cases hg; exact Nat.le_refl _)
      clear hown hb hg2
      go_wp2
      go_roundw
      case rel => exact ⟨k + 1, by omega, by go_num, rfl, by rw [HT.out, List.map_append, List.map_take]; exact hown2, hb2⟩
      case measure => simp [intOf]; omega
    · have hks : k = xs.length := by omega
      subst hks
      rw [List.take_length] at hown
      go_wp2
      go_loopw [5, 7] (fun v i wr => ∃ k : Nat, k ≤ ys.length ∧ i = .int .i64 k ∧ v = .slice (some ⟨w.heap.size, 0, none⟩) (xs.length + k) (xs.length + ys.length) ∧ wr.ownsRow w.heap.size 9 1 (.slice (some ⟨w.heap.size, 0, none⟩) (xs.length + k) (xs.length + ys.length)) (xs.length + k) (xs.map Value.string ++ (ys.take k).map Value.string) ∧ Below w.heap.size w wr) (fun _ i _ => ys.length - (intOf i).toNat)
      case atStart => exact ⟨0, Nat.zero_le _, rfl, rfl, by simpa using hown, hb⟩
      case round =>
        clear hown hb
        obtain ⟨k, hk, rfl, rfl, hown, hb⟩ := hrel
        by_cases hlt : k < ys.length
        · obtain ⟨b, off, rfl, hbl, hc0⟩ := H2.out k hlt
          have hlti : (k : Int) < ys.length := by omega
          obtain ⟨t, ht⟩ : ∃ t, t = ys.getD k ByteArray.empty := ⟨_, rfl⟩
          have hc : wr.cell? ⟨b, off + k, none⟩ = some (.string t) := by rw [ht, hb.cell (p := ⟨b, off + k, none⟩) hbl]; exact hc0
          have HT : Hid (ys.take (k + 1) = ys.take k ++ [t]) := by rw [ht]; exact take_next ys k hlt
          clear ht hc0
          go_wp2_with (at_builtin; refine wpList_append_fits _ rfl (.tmp 33) (.tmp 38) 26 rfl w.heap.size 9 i0 1 Trym.underlying26 hi hz1 w.heap.size (xs.length + k) (xs.length + ys.length) _ rfl (hown.alloc _) ⟨wr.heap.size, 0, none⟩ 1 1 [.string t] rfl rfl ?c1 ?c2 ?c3 ?_)
          case c1 => exact cell_one_new _ _ _
          case c2 => intro u hu; simp at hu; subst hu; rfl
          case c3 => omega
          intro w2 hown2 hg2
          have hb2 : Below w.heap.size w w2 := (hb.alloc hb.size _).grown hg2 (by have := hb.size; simp; omega) (fun g hg => by cases hg; exact Nat.le_refl _)
          clear hown hb hg2
          go_wp2
          go_roundw
          case rel => exact ⟨k + 1, by omega, by go_num, rfl, by rw [HT.out, List.map_append, List.map_take]; exact hown2, hb2⟩
          case measure => simp [intOf]; omega
        · have hks : k = ys.length := by omega
          subst hks
          rw [List.take_length, ← List.map_append] at hown
          go_wp2
          go_ret
          refine ⟨some ⟨w.heap.size, 0, none⟩, xs.length + ys.length, by rw [List.length_append]; rfl, ?_, hb⟩
          intro i hi
          refine ⟨w.heap.size, 0, rfl, (hown.lt _ rfl).2, ?_⟩
          rw [Nat.zero_add, hown.cellAt i (by rw [List.length_append] at hi; omega), List.getElem?_map, List.getElem?_eq_getElem hi]
          simp [List.getD, List.getElem?_eq_getElem hi]
end Go.Proofs.Qxb6604150aMods
