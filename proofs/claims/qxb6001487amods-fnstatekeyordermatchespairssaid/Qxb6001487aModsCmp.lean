/-
  THE WALKS that read two rows of bytes: zzCompareBytes, zzHasPrefix.
-/
import Derived.Test.Qxb6001487aModsKey
namespace Go.Proofs.Qxb6001487aMods
open Go.RowKit Plain

theorem cmp_step (x y : List UInt8) (k : Nat) (hx : k < x.length) (hy : k < y.length) :
    cmp (x.drop k) (y.drop k) = if x.getD k 0 < y.getD k 0 then -1 else if y.getD k 0 < x.getD k 0 then 1 else cmp (x.drop (k + 1)) (y.drop (k + 1)) := by
  rw [List.drop_eq_getElem_cons hx, List.drop_eq_getElem_cons hy]
  simp [cmp, List.getD, List.getElem?_eq_getElem hx, List.getElem?_eq_getElem hy]

theorem key_len (a b : ByteArray) (ha : a.size ≤ 65536) (hb : b.size ≤ 65536) : (skey a.data.toList b.data.toList).length ≤ 1000000 := by
  have := skey_len a.data.toList b.data.toList
  have e1 : a.data.toList.length = a.size := by simp
  have e2 : b.data.toList.length = b.size := by simp
  omega

theorem ret_int {k : IntKind} {a b : Int} (h : a = b) : Ending.returned (.int k a) = .returned (.int k b) := by rw [h]

theorem ret_bool {a b : Bool} (h : a = b) : Ending.returned (.bool a) = .returned (.bool b) := by rw [h]
theorem drews2 (w : World) (a b : Nat) : (w.drewN a).drewN b = w.drewN (a + b) := by simp
theorem drews3 (w : World) (a b c : Nat) : ((w.drewN a).drewN b).drewN c = w.drewN (a + b + c) := by simp

theorem cmp_lt (x y : List UInt8) (k : Nat) (hx : k < x.length) (hy : k < y.length) {p q : UInt8} (e : p = x.getD k 0 ∧ q = y.getD k 0) (h : p.toNat < q.toNat) : cmp (x.drop k) (y.drop k) = -1 := by
  have : x.getD k 0 < y.getD k 0 := by rw [← e.1, ← e.2, UInt8.lt_iff_toNat_lt]; exact h
  rw [cmp_step x y k hx hy, if_pos this]

theorem cmp_gt (x y : List UInt8) (k : Nat) (hx : k < x.length) (hy : k < y.length) {p q : UInt8} (e : p = x.getD k 0 ∧ q = y.getD k 0) (h : q.toNat < p.toNat) : cmp (x.drop k) (y.drop k) = 1 := by
  have h1 : ¬ x.getD k 0 < y.getD k 0 := by rw [← e.1, ← e.2, UInt8.lt_iff_toNat_lt]; omega
  have h2 : y.getD k 0 < x.getD k 0 := by rw [← e.1, ← e.2, UInt8.lt_iff_toNat_lt]; exact h
  rw [cmp_step x y k hx hy, if_neg h1, if_pos h2]

theorem cmp_eq (x y : List UInt8) (k : Nat) (hx : k < x.length) (hy : k < y.length) {p q : UInt8} (e : p = x.getD k 0 ∧ q = y.getD k 0) (h : ¬ p.toNat < q.toNat) (h' : ¬ q.toNat < p.toNat) : cmp (x.drop k) (y.drop k) = cmp (x.drop (k + 1)) (y.drop (k + 1)) := by
  have h1 : ¬ x.getD k 0 < y.getD k 0 := by rw [← e.1, ← e.2, UInt8.lt_iff_toNat_lt]; omega
  have h2 : ¬ y.getD k 0 < x.getD k 0 := by rw [← e.1, ← e.2, UInt8.lt_iff_toNat_lt]; omega
  rw [cmp_step x y k hx hy, if_neg h1, if_neg h2]

theorem cmp_end (x y : List UInt8) (k : Nat) (hk : k ≤ x.length) (hk' : k ≤ y.length) (h : x.length = k ∨ y.length = k) : cmp (x.drop k) (y.drop k) = if x.length < y.length then -1 else if y.length < x.length then 1 else 0 := by
  rcases h with h | h
  · have e : x.drop k = [] := List.drop_of_length_le (by omega)
    rw [e]
    by_cases hl : x.length < y.length
    · rw [if_pos hl, List.drop_eq_getElem_cons (by omega : k < y.length)]; rfl
    · have : y.drop k = [] := List.drop_of_length_le (by omega)
      rw [if_neg hl, if_neg (by omega), this]; rfl
  · have e : y.drop k = [] := List.drop_of_length_le (by omega)
    rw [e]
    by_cases hl : y.length < x.length
    · rw [if_neg (by omega), if_pos hl, List.drop_eq_getElem_cons (by omega : k < x.length)]; rfl
    · have : x.drop k = [] := List.drop_of_length_le (by omega)
      rw [if_neg (by omega), if_neg hl, this]; rfl

set_option maxHeartbeats 400000 in
theorem compare_any (g1 g2 c1 c2 : Nat) (x y : List UInt8) (w : World) (hx : x.length ≤ 1000000) (hy : y.length ≤ 1000000) (r1 : Row w g1 x) (r2 : Row w g2 y) :
    Calls Trym.prog 13 #[.slice (some ⟨g1, 0, none⟩) x.length c1, .slice (some ⟨g2, 0, none⟩) y.length c2] w fun e w' => e = .returned (.int .i64 (cmp x y)) ∧ ∃ n, w' = w.drewN n := by
  obtain ⟨R1, R2⟩ : Hid (Row w g1 x) ∧ Hid (Row w g2 y) := ⟨r1, r2⟩
  clear r1 r2
  by_cases hm : (y.length : Int) < x.length
  · go_enter Trym.func13, Trym.ntmps13
    go_wp2
    go_loopw [6] (fun i wr => ∃ k : Nat, k ≤ y.length ∧ i = .int .i64 k ∧ Hid (cmp x y = cmp (x.drop k) (y.drop k)) ∧ ∃ n, wr = w.drewN n) (fun i _ => y.length - (intOf i).toNat)
    case atStart => exact ⟨0, Nat.zero_le _, rfl, rfl, 0, rfl⟩
    case round =>
      obtain ⟨k, hk, rfl, HC, n, rfl⟩ := hrel
      by_cases hlt : k < y.length
      · have hlx : (k : Int) < x.length := by omega
        have hly : (k : Int) < y.length := by omega
        obtain ⟨p, hp⟩ : ∃ p, p = x.getD k 0 := ⟨_, rfl⟩
        obtain ⟨q, hq⟩ : ∃ q, q = y.getD k 0 := ⟨_, rfl⟩
        have e1 : w.cell? ⟨g1, k, none⟩ = some (.int .u8 (p.toNat : Int)) := by rw [hp]; exact R1.out k (by omega)
        have e2 : w.cell? ⟨g2, k, none⟩ = some (.int .u8 (q.toNat : Int)) := by rw [hq]; exact R2.out k (by omega)
        have HP : Hid (p = x.getD k 0 ∧ q = y.getD k 0) := ⟨hp, hq⟩
        clear hp hq
        go_wp2
        go_quiet (fail)
        go_wp2
        · have h1 : p.toNat < q.toNat := by assumption
          go_ret
          exact ⟨ret_int (by rw [HC.out, cmp_lt x y k (by omega) (by omega) HP.out h1]), _, drews2 _ _ _⟩
        · have h1 : ¬ p.toNat < q.toNat := by assumption
          go_quiet (fail)
          go_wp2
          · have h2 : q.toNat < p.toNat := by assumption
            go_ret
            exact ⟨ret_int (by rw [HC.out, cmp_gt x y k (by omega) (by omega) HP.out h2]), _, drews3 _ _ _ _⟩
          · have h2 : ¬ q.toNat < p.toNat := by assumption
            go_roundw
            case rel => exact ⟨k + 1, by omega, by go_num, HC.out.trans (cmp_eq x y k (by omega) (by omega) HP.out h1 h2), _, rfl⟩
            case measure => simp [intOf]; omega
      · have hk2 : y.length = k := by omega
        have E : Hid (cmp x y = if x.length < y.length then -1 else if y.length < x.length then 1 else 0) := HC.out.trans (cmp_end x y k (by omega) (by omega) (.inr hk2))
        clear hk2
        go_wp2
        go_ret
        exact ⟨ret_int (by rw [E.out, if_neg (by omega), if_pos (by omega)]), _, rfl⟩
  · go_enter Trym.func13, Trym.ntmps13
    go_wp2
    go_loopw [6] (fun i wr => ∃ k : Nat, k ≤ x.length ∧ i = .int .i64 k ∧ Hid (cmp x y = cmp (x.drop k) (y.drop k)) ∧ ∃ n, wr = w.drewN n) (fun i _ => x.length - (intOf i).toNat)
    case atStart => exact ⟨0, Nat.zero_le _, rfl, rfl, 0, rfl⟩
    case round =>
      obtain ⟨k, hk, rfl, HC, n, rfl⟩ := hrel
      by_cases hlt : k < x.length
      · have hlx : (k : Int) < x.length := by omega
        have hly : (k : Int) < y.length := by omega
        obtain ⟨p, hp⟩ : ∃ p, p = x.getD k 0 := ⟨_, rfl⟩
        obtain ⟨q, hq⟩ : ∃ q, q = y.getD k 0 := ⟨_, rfl⟩
        have e1 : w.cell? ⟨g1, k, none⟩ = some (.int .u8 (p.toNat : Int)) := by rw [hp]; exact R1.out k (by omega)
        have e2 : w.cell? ⟨g2, k, none⟩ = some (.int .u8 (q.toNat : Int)) := by rw [hq]; exact R2.out k (by omega)
        have HP : Hid (p = x.getD k 0 ∧ q = y.getD k 0) := ⟨hp, hq⟩
        clear hp hq
        go_wp2
        go_quiet (fail)
        go_wp2
        · have h1 : p.toNat < q.toNat := by assumption
          go_ret
          exact ⟨ret_int (by rw [HC.out, cmp_lt x y k (by omega) (by omega) HP.out h1]), _, drews2 _ _ _⟩
        · have h1 : ¬ p.toNat < q.toNat := by assumption
          go_quiet (fail)
          go_wp2
          · have h2 : q.toNat < p.toNat := by assumption
            go_ret
            exact ⟨ret_int (by rw [HC.out, cmp_gt x y k (by omega) (by omega) HP.out h2]), _, drews3 _ _ _ _⟩
          · have h2 : ¬ q.toNat < p.toNat := by assumption
            go_roundw
            case rel => exact ⟨k + 1, by omega, by go_num, HC.out.trans (cmp_eq x y k (by omega) (by omega) HP.out h1 h2), _, rfl⟩
            case measure => simp [intOf]; omega
      · have hk2 : x.length = k := by omega
        have E : Hid (cmp x y = if x.length < y.length then -1 else if y.length < x.length then 1 else 0) := HC.out.trans (cmp_end x y k (by omega) (by omega) (.inl hk2))
        clear hk2
        by_cases hl : (x.length : Int) < y.length
        · go_wp2
          go_ret
          exact ⟨ret_int (by rw [E.out, if_pos (by omega)]), _, rfl⟩
        · go_wp2
          go_ret
          exact ⟨ret_int (by rw [E.out, if_neg (by omega), if_neg (by omega)]), _, rfl⟩

theorem pre_step (x y : List UInt8) (k : Nat) (hx : k < x.length) (hy : k < y.length) {p q : UInt8} (e : p = x.getD k 0 ∧ q = y.getD k 0) :
    pre (x.drop k) (y.drop k) = if p = q then pre (x.drop (k + 1)) (y.drop (k + 1)) else false := by
  rw [List.drop_eq_getElem_cons hx, List.drop_eq_getElem_cons hy, e.1, e.2]
  simp [pre, List.getD, List.getElem?_eq_getElem hx, List.getElem?_eq_getElem hy]

theorem pre_short : ∀ (x y : List UInt8), y.length < x.length → pre x y = false
  | [], _, h => by simp at h
  | _ :: _, [], _ => rfl
  | a :: x, b :: y, h => by
    have := pre_short x y (by simpa using h)
    simp [pre, this]

set_option maxHeartbeats 400000 in
/-- zzHasPrefix(s, p): is p (the second row, x) a beginning of s (the first row, y)? -/
theorem begins_any (g1 g2 c1 c2 : Nat) (y x : List UInt8) (w : World) (_hx : x.length ≤ 1000000) (hy : y.length ≤ 1000000) (r1 : Row w g1 y) (r2 : Row w g2 x) :
    Calls Trym.prog 15 #[.slice (some ⟨g1, 0, none⟩) y.length c1, .slice (some ⟨g2, 0, none⟩) x.length c2] w fun e w' => e = .returned (.bool (pre x y)) ∧ ∃ n, w' = w.drewN n := by
  obtain ⟨R1, R2⟩ : Hid (Row w g1 y) ∧ Hid (Row w g2 x) := ⟨r1, r2⟩
  clear r1 r2
  by_cases hm : (y.length : Int) < x.length
  · have E : Hid (pre x y = false) := pre_short x y (by omega)
    go_enter Trym.func15, Trym.ntmps15
    go_wp2
    go_ret
    exact ⟨ret_bool E.out.symm, 0, rfl⟩
  · go_enter Trym.func15, Trym.ntmps15
    go_wp2
    go_loopw [5] (fun i wr => ∃ k : Nat, k ≤ x.length ∧ i = .int .i64 k ∧ Hid (pre x y = pre (x.drop k) (y.drop k)) ∧ ∃ n, wr = w.drewN n) (fun i _ => x.length - (intOf i).toNat)
    case atStart => exact ⟨0, Nat.zero_le _, rfl, rfl, 0, rfl⟩
    case round =>
      obtain ⟨k, hk, rfl, HC, n, rfl⟩ := hrel
      by_cases hlt : k < x.length
      · have hlx : (k : Int) < x.length := by omega
        have hly : (k : Int) < y.length := by omega
        obtain ⟨p, hp⟩ : ∃ p, p = x.getD k 0 := ⟨_, rfl⟩
        obtain ⟨q, hq⟩ : ∃ q, q = y.getD k 0 := ⟨_, rfl⟩
        have e1 : w.cell? ⟨g1, k, none⟩ = some (.int .u8 (q.toNat : Int)) := by rw [hq]; exact R1.out k (by omega)
        have e2 : w.cell? ⟨g2, k, none⟩ = some (.int .u8 (p.toNat : Int)) := by rw [hp]; exact R2.out k (by omega)
        have HP : Hid (pre (x.drop k) (y.drop k) = if p = q then pre (x.drop (k + 1)) (y.drop (k + 1)) else false) := pre_step x y k (by omega) (by omega) ⟨hp, hq⟩
        clear hp hq
        by_cases hpq : p = q
        · have HQ : Hid (pre (x.drop k) (y.drop k) = pre (x.drop (k + 1)) (y.drop (k + 1))) := HP.out.trans (if_pos hpq)
          clear HP
          subst hpq
          go_wp2
          go_quiet (fail)
          go_wp2
          go_roundw
          case rel => exact ⟨k + 1, by omega, by go_num, HC.out.trans HQ.out, _, rfl⟩
          case measure => simp [intOf]; omega
        · have hne : ((q.toNat : Int) == (p.toNat : Int)) = false := by
            have : q.toNat ≠ p.toNat := fun e => hpq (UInt8.toNat_inj.1 e.symm)
            simp; omega
          go_wp2
          go_quiet (fail)
          go_wp2
          go_ret
          exact ⟨ret_bool (by rw [HC.out, HP.out, if_neg hpq]), _, drews2 _ _ _⟩
      · have hk2 : x.length = k := by omega
        have E : Hid (pre x y = true) := HC.out.trans (by rw [List.drop_of_length_le (by omega)]; simp [pre])
        clear hk2
        go_wp2
        go_ret
        exact ⟨ret_bool E.out.symm, _, rfl⟩

end Go.Proofs.Qxb6001487aMods
