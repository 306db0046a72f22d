/-
  THE WALKS that both laws of the seat share: stateKey builds the key; the comparisons read two rows.
-/
import Derived.Test.Qxb6001487aModsRows
import Derived.Test.Qxb6001487aModsPlain
import Derived.WalkKit
import Derived.WalkSpells
import Derived.WalkLawsBesides
import Derived.Lib.AppendStr
import Derived.Deep.QuietTactic
import Derived.BigQuiet
namespace Go.Proofs.Qxb6001487aMods
open Go.RowKit Plain

theorem Trym.info5 : (Trym.prog.info? 5).map (fun i => (i.zero, i.size, i.bytes)) = some (some (.int .u8 0), 1, 1) := by kernel_rfl

/-- A byte as a cell. -/
def bt (b : UInt8) : Value := .int .u8 b.toNat

theorem bt_one (l : List UInt8) : ∀ u ∈ l.map bt, u.oneCell' = true := by
  intro u hu
  obtain ⟨_, _, rfl⟩ := List.mem_map.1 hu
  rfl

/-- Behind an append onto a row of the call's own: below it nothing has turned. -/
theorem below_append {B e n : Nat} {w0 w w' : World} {v : Value} {xs : List Value} {o : Obj} (hB : B ≤ w0.heap.size) (hown : w.ownsRow B e 1 v n xs) (hb : Below B w0 w) (hg : (w.alloc o).grownBy w' v.ownBlock) : Below B w0 w' :=
  (hb.alloc (Nat.le_trans hB hb.size) o).grown hg (by have := hb.size; simp; omega) (fun g h => (hown.lt g h).1)

theorem esc_next (s : ByteArray) (k : Nat) (h : k < s.size) : esc (s.data.toList.take (k + 1)) = esc (s.data.toList.take k) ++ (if s[k] = 0 then [0, 255] else [s[k]]) := by
  rw [← esc_snoc, List.take_succ_eq_append_getElem (by simpa using h)]
  rfl

theorem esc_zero (s : ByteArray) (k : Nat) (h : k < s.size) (hz : ((s[k].toNat : Int) == 0) = true) :
    (esc (s.data.toList.take (k + 1))).length = (esc (s.data.toList.take k)).length + 1 + 1 ∧
    (esc (s.data.toList.take (k + 1))).map bt = (esc (s.data.toList.take k)).map bt ++ [Value.int .u8 (s[k].toNat), Value.int .u8 255] := by
  have e : s[k].toNat = 0 := by simpa using hz
  have e0 : s[k] = 0 := UInt8.toNat_inj.1 (by simpa using e)
  rw [esc_next s k h, if_pos e0, e]
  simp [bt]

theorem esc_other (s : ByteArray) (k : Nat) (h : k < s.size) (hz : ((s[k].toNat : Int) == 0) = false) :
    (esc (s.data.toList.take (k + 1))).length = (esc (s.data.toList.take k)).length + 1 ∧
    (esc (s.data.toList.take (k + 1))).map bt = (esc (s.data.toList.take k)).map bt ++ [Value.int .u8 (s[k].toNat)] := by
  have e0 : s[k] ≠ 0 := fun e => by simp [e] at hz
  rw [esc_next s k h, if_neg e0]
  simp [bt]

theorem skey_cells (ns key : ByteArray) :
    (skey ns.data.toList key.data.toList).length = (esc ns.data.toList).length + 2 + key.size ∧
    (skey ns.data.toList key.data.toList).map bt = (esc ns.data.toList).map bt ++ ([Value.int .u8 0, Value.int .u8 1] ++ Lib.strCells key) := by
  refine ⟨?_, ?_⟩
  · simp [skey]
    omega
  · simp [skey, bt, Lib.strCells]

set_option maxHeartbeats 400000 in
theorem stateKey_any (ns key : ByteArray) (w : World) (h1 : ns.size ≤ 65536) (h2 : key.size ≤ 65536) :
    Calls Trym.prog 17 #[.string ns, .string key] w fun e w' =>
      ∃ v, e = .returned v ∧ w'.ownsRow w.heap.size 5 1 v (skey ns.data.toList key.data.toList).length ((skey ns.data.toList key.data.toList).map bt) ∧ Below w.heap.size w w' := by
  obtain ⟨i0, hi, hz0, hz1, hz2⟩ := info_parts Trym.info5
  go_enter Trym.func17, Trym.ntmps17
  go_wp2_with (at_make; refine wpList_make_own _ rfl _ _ 25 rfl w.heap.size 5 i0 (.int .u8 0) 1 Trym.underlying25 hi hz0 hz1 _ _ _ (ns.size + 2 + key.size) rfl rfl ?m1 ?m2 ?m3 ?m4 ?_)
  case m1 => omega
  case m2 => rw [hz2]; omega
  case m3 => unfold maxLen; omega
  case m4 => exact Nat.le_refl _
  intro w1 hown hgrow
  have hb1 : Below w.heap.size w w1 := (Below.refl _ _).grown hgrow (Nat.le_refl _) (fun k h => by cases h)
  clear hgrow
  go_wp2
  go_loopw [5, 16] (fun v i wr => ∃ k : Nat, k ≤ ns.size ∧ i = .int .i64 k ∧ wr.ownsRow w.heap.size 5 1 v (esc (ns.data.toList.take k)).length ((esc (ns.data.toList.take k)).map bt) ∧ Below w.heap.size w wr) (fun _ i _ => ns.size - (intOf i).toNat)
  case atStart => exact ⟨0, Nat.zero_le _, rfl, by simpa [esc] using hown, hb1⟩
  case round =>
    clear hown hb1
    obtain ⟨k, hk, rfl, hown, hb⟩ := hrel
    have hl := esc_len (ns.data.toList.take k)
    have hl2 : (ns.data.toList.take k).length ≤ k := List.length_take_le _ _
    by_cases hlt : k < ns.size
    · by_cases hz : ((ns[k].toNat : Int) == 0) = true
      · go_wp2_with (at_builtin; refine wpList_append_own _ rfl (.tmp 19) (.tmp 23) 25 rfl w.heap.size 5 i0 (.int .u8 0) 1 1 Trym.underlying25 hi hz0 hz1 hz2 rfl (by decide) _ _ _ rfl (hown.alloc _) ⟨wr.heap.size, 0, none⟩ 1 1 [.int .u8 (ns[k].toNat)] rfl rfl ?c1 ?c2 ?c3 ?c4 ?c5 ?_)
        case c1 => exact cell_one_new _ _ _
        case c2 => intro u hu; simp at hu; subst hu; rfl
        case c3 => unfold maxLen; omega
        case c4 => omega
        case c5 => have := hb.size; simp; omega
        intro v1 w2 hown1 hg1 _
        have hb2 : Below w.heap.size w w2 := below_append (Nat.le_refl _) hown hb hg1
        clear hown hb hg1
        go_wp2_with (at_builtin; refine wpList_append_own _ rfl (.tmp 29) (.tmp 30) 25 rfl w.heap.size 5 i0 (.int .u8 0) 1 1 Trym.underlying25 hi hz0 hz1 hz2 rfl (by decide) _ _ _ rfl (hown1.alloc _) ⟨w2.heap.size, 0, none⟩ 1 1 [.int .u8 255] rfl rfl ?d1 ?d2 ?d3 ?d4 ?d5 ?_)
        case d1 => exact cell_one_new _ _ _
        case d2 => intro u hu; simp at hu; subst hu; rfl
        case d3 => unfold maxLen; omega
        case d4 => omega
        case d5 => have := hb2.size; simp; omega
        intro v2 w3 hown2 hg2 _
        have hb3 : Below w.heap.size w w3 := below_append (Nat.le_refl _) hown1 hb2 hg2
        clear hown1 hb2 hg2
        have E : Hid ((esc (ns.data.toList.take (k + 1))).length = (esc (ns.data.toList.take k)).length + 1 + 1 ∧
          (esc (ns.data.toList.take (k + 1))).map bt = (esc (ns.data.toList.take k)).map bt ++ [Value.int .u8 (ns[k].toNat), Value.int .u8 255]) := esc_zero ns k hlt hz
        go_wp2
        go_roundw
        case rel => exact ⟨k + 1, by omega, by go_num, by rw [E.out.1, E.out.2]; exact hown2, hb3⟩
        case measure => simp [intOf]; omega
      · replace hz : ((ns[k].toNat : Int) == 0) = false := by simpa using hz
        go_wp2_with (at_builtin; refine wpList_append_own _ rfl (.tmp 19) (.tmp 23) 25 rfl w.heap.size 5 i0 (.int .u8 0) 1 1 Trym.underlying25 hi hz0 hz1 hz2 rfl (by decide) _ _ _ rfl (hown.alloc _) ⟨wr.heap.size, 0, none⟩ 1 1 [.int .u8 (ns[k].toNat)] rfl rfl ?c1 ?c2 ?c3 ?c4 ?c5 ?_)
        case c1 => exact cell_one_new _ _ _
        case c2 => intro u hu; simp at hu; subst hu; rfl
        case c3 => unfold maxLen; omega
        case c4 => omega
        case c5 => have := hb.size; simp; omega
        intro v1 w2 hown1 hg1 _
        have hb2 : Below w.heap.size w w2 := below_append (Nat.le_refl _) hown hb hg1
        clear hown hb hg1
        have E : Hid ((esc (ns.data.toList.take (k + 1))).length = (esc (ns.data.toList.take k)).length + 1 ∧
          (esc (ns.data.toList.take (k + 1))).map bt = (esc (ns.data.toList.take k)).map bt ++ [Value.int .u8 (ns[k].toNat)]) := esc_other ns k hlt hz
        go_wp2
        go_roundw
        case rel => exact ⟨k + 1, by omega, by go_num, by rw [E.out.1, E.out.2]; exact hown1, hb2⟩
        case measure => simp [intOf]; omega
    · have hks : k = ns.size := by omega
      subst hks
      have ht : Hid (ns.data.toList.take ns.size = ns.data.toList) := List.take_of_length_le (by simp)
      go_wp2_with (at_builtin; refine wpList_append_own _ rfl (.tmp 33) (.tmp 34) 25 rfl w.heap.size 5 i0 (.int .u8 0) 1 1 Trym.underlying25 hi hz0 hz1 hz2 rfl (by decide) _ _ _ rfl (hown.alloc _) ⟨wr.heap.size, 0, none⟩ 2 2 [.int .u8 0, .int .u8 1] rfl rfl ?c1 ?c2 ?c3 ?c4 ?c5 ?_)
      case c1 => exact cell_two_new _ _ _ _
      case c2 => intro u hu; simp at hu; rcases hu with rfl | rfl <;> rfl
      case c3 => unfold maxLen; omega
      case c4 => omega
      case c5 => have := hb.size; simp; omega
      intro v1 w2 hown1 hg1 _
      have hb2 : Below w.heap.size w w2 := below_append (Nat.le_refl _) hown hb hg1
      clear hown hb hg1
      go_wp2_with (at_builtin; refine Lib.wpList_append_own_string _ rfl (.tmp 36) (.tmp 37) 25 9 rfl w.heap.size 5 i0 Trym.underlying25 Trym.underlying9 hi hz0 hz1 hz2 _ _ _ rfl hown1 key rfl ?d3 ?d4 ?d5 ?_)
      case d3 => unfold maxLen; omega
      case d4 => omega
      case d5 => exact hb2.size
      intro v2 w3 hown2 hg2 _
      have hb3 : Below w.heap.size w w3 := hb2.grown hg2 hb2.size (fun g h => (hown1.lt g h).1)
      clear hown1 hb2 hg2
      go_wp2
      go_ret
      exact ⟨_, rfl, by rw [(skey_cells ns key).1, (skey_cells ns key).2, ← ht.out]; exact hown2, hb3⟩

/-- Block g holds the bytes l from its head on. -/
def Row (w : World) (g : Nat) (l : List UInt8) : Prop := ∀ i, i < l.length → w.cell? ⟨g, i, none⟩ = some (.int .u8 ((l.getD i 0).toNat : Int))

theorem Row.later {w w' : World} {g : Nat} {l : List UInt8} (h : Row w g l) {B : Nat} (hb : Below B w w') (hg : g < B) : Row w' g l :=
  fun i hi => (hb.cell (p := ⟨g, i, none⟩) hg).trans (h i hi)

theorem row_of_owns {w : World} {B g cap : Nat} {l : List UInt8} (h : w.ownsRow B 5 1 (.slice (some ⟨g, 0, none⟩) l.length cap) l.length (l.map bt)) : Row w g l := by
  intro i hi
  rw [h.cellAt i (by omega)]
  simp [List.getElem?_eq_getElem hi, bt]

set_option maxHeartbeats 400000 in
/-- The exported name of stateKey. -/
theorem key_any (ns key : ByteArray) (w : World) (h1 : ns.size ≤ 65536) (h2 : key.size ≤ 65536) :
    Calls Trym.prog 9 #[.string ns, .string key] w fun e w' =>
      ∃ g cap, e = .returned (.slice (some ⟨g, 0, none⟩) (skey ns.data.toList key.data.toList).length cap) ∧ g < w'.heap.size ∧ Row w' g (skey ns.data.toList key.data.toList) ∧ Below w.heap.size w w' := by
  go_enter Trym.func9, Trym.ntmps9
  go_wp2_with (go_at_call 17; refine (stateKey_any ns key _ h1 h2).mono ?_; rintro e w' ⟨v, rfl, hown, hb⟩)
  go_ret
  obtain ⟨g, cap, hv⟩ : ∃ g cap, v = .slice (some ⟨g, 0, none⟩) (skey ns.data.toList key.data.toList).length cap := by
    rcases hown.2 with ⟨_, h⟩ | ⟨g, cap, cur, hv, _⟩
    · have := (skey_cells ns key).1
      omega
    · exact ⟨g, cap, hv⟩
  rw [hv] at hown ⊢
  exact ⟨g, cap, rfl, (hown.lt g rfl).2, row_of_owns hown, hb⟩

end Go.Proofs.Qxb6001487aMods
