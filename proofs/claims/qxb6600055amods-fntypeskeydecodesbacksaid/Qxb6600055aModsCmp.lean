/-
  THE WALKS that read two slices of 16-bit numbers, or two strings: zzb1Same, zzb1Compare, zzb1CompareText.
-/
import Derived.Test.Qxb6600055aModsKey
import Derived.OpenShut
namespace Go.Proofs.Qxb6600055aMods
open Go.RowKit Plain

theorem ret_int {k : IntKind} {a b : Int} (h : a = b) : Ending.returned (.int k a) = .returned (.int k b) := by rw [h]
theorem ret_bool {a b : Bool} (h : a = b) : Ending.returned (.bool a) = .returned (.bool b) := by rw [h]
theorem drews2 (w : World) (a b : Nat) : (w.drewN a).drewN b = w.drewN (a + b) := by simp
theorem drews3 (w : World) (a b c : Nat) : ((w.drewN a).drewN b).drewN c = w.drewN (a + b + c) := by simp

/-- What the row's step tells of a slice that came in, as the walks want it: its elements alone. -/
theorem holds_of {w : World} {a : Option Addr} {len cap : Nat} {zs : List Int}
    (h : (a = none ∧ len = 0 ∧ cap = 0 ∧ zs = []) ∨ ∃ x, a = some x ∧ len ≤ cap ∧ cap ≤ maxLen ∧ zs.length = cap ∧ (∀ i, i < zs.length → w.cell? (x.add i) = some (.int .u16 (zs.getD i 0))) ∧ ∀ n ∈ zs, (Lit.int .u16 n).wf = true) :
    ∃ xs : List Int, len = xs.length ∧ xs.length ≤ 9223372036854775807 ∧ u16s xs ∧ Holds w a xs ∧ (a = none → xs = []) := by
  rcases h with ⟨rfl, rfl, _, _⟩ | ⟨x, rfl, hlc, hcm, hz, hcell, hwf⟩
  · exact ⟨[], rfl, by simp, fun t ht => by simp at ht, fun i hi => by simp at hi, fun _ => rfl⟩
  · have hl : (zs.take len).length = len := by rw [List.length_take]; omega
    refine ⟨zs.take len, hl.symm, ?_, ?_, ?_, fun h => by cases h⟩
    · unfold maxLen at hcm; omega
    · intro t ht
      exact bounds_u16 (hwf t (List.mem_of_mem_take ht))
    · intro i hi
      obtain ⟨b, off, rfl, hc⟩ := ints_at hcell (by omega)
      have hci := hc i (by omega)
      refine ⟨b, off, rfl, World.block_lt_of_cell? _ _ hci, ?_⟩
      rw [hci]
      simp [List.getD, show i < len by omega]

theorem cmpI_step (x y : List Int) (k : Nat) (hx : k < x.length) (hy : k < y.length) {p q : Int} (e : p = x.getD k 0 ∧ q = y.getD k 0) :
    cmpI (x.drop k) (y.drop k) = if p < q then -1 else if q < p then 1 else cmpI (x.drop (k + 1)) (y.drop (k + 1)) := by
  rw [List.drop_eq_getElem_cons hx, List.drop_eq_getElem_cons hy, e.1, e.2]
  simp [cmpI, List.getD, List.getElem?_eq_getElem hx, List.getElem?_eq_getElem hy]

theorem cmpI_end (x y : List Int) (k : Nat) (hk : k ≤ x.length) (hk' : k ≤ y.length) (h : x.length = k ∨ y.length = k) : cmpI (x.drop k) (y.drop k) = if x.length < y.length then -1 else if y.length < x.length then 1 else 0 := by
  rcases h with h | h
  · have e : x.drop k = [] := List.drop_of_length_le (by omega)
    rw [e]
    by_cases hl : x.length < y.length
    · rw [if_pos hl, List.drop_eq_getElem_cons (by omega : k < y.length)]; rfl
    · have : y.drop k = [] := List.drop_of_length_le (by omega)
      rw [if_neg hl, if_neg (by omega), this]; rfl
  · have e : y.drop k = [] := List.drop_of_length_le (by omega)
    rw [e]
    by_cases hl : y.length < x.length
    · rw [if_neg (by omega), if_pos hl, List.drop_eq_getElem_cons (by omega : k < x.length)]; rfl
    · have : x.drop k = [] := List.drop_of_length_le (by omega)
      rw [if_neg (by omega), if_neg hl, this]; rfl

theorem same_step (x y : List Int) (k : Nat) (hx : k < x.length) (hy : k < y.length) {p q : Int} (e : p = x.getD k 0 ∧ q = y.getD k 0) :
    (x.drop k == y.drop k) = if p = q then (x.drop (k + 1) == y.drop (k + 1)) else false := by
  rw [List.drop_eq_getElem_cons hx, List.drop_eq_getElem_cons hy, e.1, e.2]
  have e1 : x.getD k 0 = x[k] := by simp [List.getD, List.getElem?_eq_getElem hx]
  have e2 : y.getD k 0 = y[k] := by simp [List.getD, List.getElem?_eq_getElem hy]
  rw [e1, e2, List.cons_beq_cons]
  by_cases h : x[k] = y[k]
  · rw [if_pos h, h, beq_self_eq_true, Bool.true_and]
  · rw [if_neg h, beq_false_of_ne h, Bool.false_and]

set_option maxHeartbeats 400000 in
theorem same_any (a1 a2 : Option Addr) (c1 c2 : Nat) (x y : List Int) (w : World) (hx : x.length ≤ 65536) (_hy : y.length ≤ 65536) (h1 : Holds w a1 x) (h2 : Holds w a2 y) :
    Calls Trym.prog 12 #[.slice a1 x.length c1, .slice a2 y.length c2] w fun e w' => e = .returned (.bool (x == y)) ∧ ∃ n, w' = w.drewN n := by
  obtain ⟨H1, H2⟩ : Hid (Holds w a1 x) ∧ Hid (Holds w a2 y) := ⟨h1, h2⟩
  clear h1 h2
  by_cases hm : x.length = y.length
  · have hm1 : (x.length : Int) ≤ y.length := by omega
    have hm2 : (y.length : Int) ≤ x.length := by omega
    clear hm
    go_enter Trym.func12, Trym.ntmps12
    go_wp2
    go_loopw [5] (fun i wr => ∃ k : Nat, k ≤ x.length ∧ i = .int .i64 k ∧ Hid ((x == y) = (x.drop k == y.drop k)) ∧ ∃ n, wr = w.drewN n) (fun i _ => x.length - (intOf i).toNat)
    case atStart => exact ⟨0, Nat.zero_le _, rfl, rfl, 0, rfl⟩
    case round =>
      obtain ⟨k, hk, rfl, HC, n, rfl⟩ := hrel
      by_cases hlt : k < x.length
      · have hlx : (k : Int) < x.length := by omega
        have hly : (k : Int) < y.length := by omega
        obtain ⟨b1, o1, rfl, _, e1⟩ := H1.out k (by omega)
        obtain ⟨b2, o2, rfl, _, e2⟩ := H2.out k (by omega)
        obtain ⟨p, hp⟩ : ∃ p, p = x.getD k 0 := ⟨_, rfl⟩
        obtain ⟨q, hq⟩ : ∃ q, q = y.getD k 0 := ⟨_, rfl⟩
        rw [← hp] at e1
        rw [← hq] at e2
        have HP : Hid ((x.drop k == y.drop k) = if p = q then (x.drop (k + 1) == y.drop (k + 1)) else false) := same_step x y k (by omega) (by omega) ⟨hp, hq⟩
        clear hp hq
        by_cases hpq : p = q
        · have HQ : Hid ((x.drop k == y.drop k) = (x.drop (k + 1) == y.drop (k + 1))) := HP.out.trans (if_pos hpq)
          clear HP
          subst hpq
          go_wp2
          go_quiet (fail)
          go_wp2
          go_roundw
          case rel => exact ⟨k + 1, by omega, by go_num, HC.out.trans HQ.out, _, rfl⟩
          case measure => simp [intOf]; omega
        · have hne : (p == q) = false := by simpa using hpq
          go_wp2
          go_quiet (fail)
          go_wp2
          go_ret
          exact ⟨ret_bool (by rw [HC.out, HP.out, if_neg hpq]), _, drews2 _ _ _⟩
      · have E : Hid ((x == y) = true) := HC.out.trans (by rw [List.drop_of_length_le (by omega), List.drop_of_length_le (by omega)]; rfl)
        go_wp2
        go_ret
        exact ⟨ret_bool E.out.symm, _, rfl⟩
  · have E : Hid ((x == y) = false) := beq_false_of_ne (fun e => hm (by rw [e]))
    have hm' : ((x.length : Int) == y.length) = false := by simp; omega
    clear hm
    go_enter Trym.func12, Trym.ntmps12
    go_wp2
    go_ret
    exact ⟨ret_bool E.out.symm, 0, rfl⟩

set_option maxHeartbeats 400000 in
theorem compare_any (a1 a2 : Option Addr) (c1 c2 : Nat) (x y : List Int) (w : World) (hx : x.length ≤ 65536) (_hy : y.length ≤ 65536) (h1 : Holds w a1 x) (h2 : Holds w a2 y) :
    Calls Trym.prog 16 #[.slice a1 x.length c1, .slice a2 y.length c2] w fun e w' => e = .returned (.int .i64 (cmpI x y)) ∧ ∃ n, w' = w.drewN n := by
  obtain ⟨H1, H2⟩ : Hid (Holds w a1 x) ∧ Hid (Holds w a2 y) := ⟨h1, h2⟩
  clear h1 h2
  go_enter Trym.func16, Trym.ntmps16
  go_wp2
  go_loopw [5] (fun i wr => ∃ k : Nat, k ≤ x.length ∧ k ≤ y.length ∧ i = .int .i64 k ∧ Hid (cmpI x y = cmpI (x.drop k) (y.drop k)) ∧ ∃ n, wr = w.drewN n) (fun i _ => x.length - (intOf i).toNat)
  case atStart => exact ⟨0, Nat.zero_le _, Nat.zero_le _, rfl, rfl, 0, rfl⟩
  case round =>
    obtain ⟨k, hk, hk', rfl, HC, n, rfl⟩ := hrel
    by_cases hlt : k < x.length
    · have hlx : (k : Int) < x.length := by omega
      by_cases hlt2 : k < y.length
      · have hly : (k : Int) < y.length := by omega
        obtain ⟨b1, o1, rfl, _, e1⟩ := H1.out k (by omega)
        obtain ⟨b2, o2, rfl, _, e2⟩ := H2.out k (by omega)
        obtain ⟨p, hp⟩ : ∃ p, p = x.getD k 0 := ⟨_, rfl⟩
        obtain ⟨q, hq⟩ : ∃ q, q = y.getD k 0 := ⟨_, rfl⟩
        rw [← hp] at e1
        rw [← hq] at e2
        have HP : Hid (cmpI (x.drop k) (y.drop k) = if p < q then -1 else if q < p then 1 else cmpI (x.drop (k + 1)) (y.drop (k + 1))) := cmpI_step x y k (by omega) (by omega) ⟨hp, hq⟩
        clear hp hq
        by_cases g1 : p < q
        · go_wp2
          go_quiet (fail)
          go_wp2
          go_ret
          exact ⟨ret_int (by rw [HC.out, HP.out, if_pos g1]), _, drews2 _ _ _⟩
        · by_cases g2 : q < p
          · go_wp2
            go_quiet (fail)
            go_wp2
            go_quiet (fail)
            go_wp2
            go_ret
            exact ⟨ret_int (by rw [HC.out, HP.out, if_neg (by omega), if_pos g2]), _, drews3 _ _ _ _⟩
          · go_wp2
            go_quiet (fail)
            go_wp2
            go_quiet (fail)
            go_wp2
            go_roundw
            case rel => exact ⟨k + 1, by omega, by omega, by go_num, HC.out.trans (by rw [HP.out, if_neg (by omega), if_neg (by omega)]), _, rfl⟩
            case measure => simp [intOf]; omega
      · have E : Hid (cmpI x y = if x.length < y.length then -1 else if y.length < x.length then 1 else 0) := HC.out.trans (cmpI_end x y k (by omega) (by omega) (.inr (by omega)))
        go_wp2
        go_ret
        exact ⟨ret_int (by rw [E.out, if_neg (by omega), if_pos (by omega)]), _, rfl⟩
    · have E : Hid (cmpI x y = if x.length < y.length then -1 else if y.length < x.length then 1 else 0) := HC.out.trans (cmpI_end x y k (by omega) (by omega) (.inl (by omega)))
      by_cases hl : (x.length : Int) < y.length
      · go_wp2
        go_ret
        exact ⟨ret_int (by rw [E.out, if_pos (by omega)]), _, rfl⟩
      · go_wp2
        go_ret
        exact ⟨ret_int (by rw [E.out, if_neg (by omega), if_neg (by omega)]), _, rfl⟩

theorem text_any (x y : ByteArray) (w : World) :
    Calls Trym.prog 15 #[.string x, .string y] w fun e w' => e = .returned (.int .i64 (cmpT x.toList y.toList)) ∧ w' = w := by
  by_cases g1 : Op.bytesLess x.toList y.toList = true
  · go_enter Trym.func15, Trym.ntmps15
    go_wp2
    go_ret
    exact ⟨ret_int (by simp [cmpT, g1]), rfl⟩
  · replace g1 : Op.bytesLess x.toList y.toList = false := by simpa using g1
    by_cases g2 : (x.toList == y.toList) = true
    · go_enter Trym.func15, Trym.ntmps15
      go_wp2
      go_ret
      exact ⟨ret_int (by simp [cmpT, g1, g2]), rfl⟩
    · replace g2 : (x.toList == y.toList) = false := by simpa using g2
      go_enter Trym.func15, Trym.ntmps15
      go_wp2
      go_ret
      exact ⟨ret_int (by simp [cmpT, g1, g2]), rfl⟩

end Go.Proofs.Qxb6600055aMods
