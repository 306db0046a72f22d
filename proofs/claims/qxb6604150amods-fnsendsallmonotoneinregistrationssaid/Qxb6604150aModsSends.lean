/-
  THE WALKS of HasRedirectURI and sendsAll.
-/
import Derived.Test.Qxb6604150aModsLists
namespace Go.Proofs.Qxb6604150aMods
open Go.RowKit

theorem ret_bool {a b : Bool} (h : a = b) : Ending.returned (.bool a) = .returned (.bool b) := by rw [h]

/-- Is u among xs? -/
def hasU (xs : List ByteArray) (u : ByteArray) : Bool := xs.any fun x => x.toList == u.toList

/-- Are all us among xs? -/
def allU (xs us : List ByteArray) : Bool := us.all fun u => hasU xs u

theorem hasU_step (xs : List ByteArray) (u : ByteArray) (k : Nat) (h : k < xs.length) {t : ByteArray} (e : t = xs.getD k ByteArray.empty) : hasU (xs.drop k) u = ((t.toList == u.toList) || hasU (xs.drop (k + 1)) u) := by
  have e1 : t = xs[k] := e.trans (by simp [List.getD, List.getElem?_eq_getElem h])
  rw [List.drop_eq_getElem_cons h, e1]
  unfold hasU
  rw [List.any_cons]

theorem allU_step (xs us : List ByteArray) (k : Nat) (h : k < us.length) {t : ByteArray} (e : t = us.getD k ByteArray.empty) : allU xs (us.drop k) = (hasU xs t && allU xs (us.drop (k + 1))) := by
  have e1 : t = us[k] := e.trans (by simp [List.getD, List.getElem?_eq_getElem h])
  rw [List.drop_eq_getElem_cons h, e1]
  unfold allU
  rw [List.all_cons]

/-- A client whose only filled field is its list of addresses. -/
abbrev cl (a : Option Addr) (n c : Nat) : Value := .agg #[.string ⟨#[]⟩, .string ⟨#[]⟩, .slice a n c, .string ⟨#[]⟩, .string ⟨#[]⟩, .bool false, .bool false]
abbrev clBox (a : Option Addr) (n c : Nat) : Obj := .cells #[.string ⟨#[]⟩, .string ⟨#[]⟩, .slice a n c, .string ⟨#[]⟩, .string ⟨#[]⟩, .bool false, .bool false] 31

set_option maxHeartbeats 400000 in
theorem has_any (a : Option Addr) (xs : List ByteArray) (c : Nat) (u : ByteArray) (w : World) (hl : xs.length ≤ 8192) (h : Holds w a xs) :
    Calls Trym.prog 19 #[cl a xs.length c, .string u] w fun e w' => e = .returned (.bool (hasU xs u)) ∧ Below w.heap.size w w' := by
  have H : Hid (Holds w a xs) := h
  clear h
  go_enter Trym.func19, Trym.ntmps19
  go_wp2
  go_loop [10] (fun i => ∃ k : Nat, k ≤ xs.length ∧ i = .int .i64 k ∧ Hid (hasU xs u = hasU (xs.drop k) u)) (fun i => xs.length - (intOf i).toNat)
  case atStart => exact ⟨0, Nat.zero_le _, rfl, rfl⟩
  case round =>
    obtain ⟨k, hk, rfl, HC⟩ := hrel
    by_cases hlt : k < xs.length
    · obtain ⟨b, off, rfl, hbl, hc⟩ := H.out k hlt
      have hlti : (k : Int) < xs.length := by omega
      obtain ⟨t, ht⟩ : ∃ t, t = xs.getD k ByteArray.empty := ⟨_, rfl⟩
      rw [← ht] at hc
      have HT : Hid (hasU (xs.drop k) u = ((t.toList == u.toList) || hasU (xs.drop (k + 1)) u)) := hasU_step xs u k hlt ht
      clear ht
      by_cases hq : (t.toList == u.toList) = true
      · go_wp2
        go_ret
        exact ⟨ret_bool (by rw [HC.out, HT.out, hq]; rfl), (Below.refl _ _).alloc (Nat.le_refl _) _⟩
      · replace hq : (t.toList == u.toList) = false := by simpa using hq
        go_wp2
        go_round
        case rel => exact ⟨k + 1, by omega, by go_num, HC.out.trans (by rw [HT.out, hq]; rfl)⟩
        case measure => simp [intOf]; omega
    · have E : Hid (hasU xs u = false) := HC.out.trans (by rw [List.drop_of_length_le (by omega)]; rfl)
      go_wp2
      go_ret
      exact ⟨ret_bool E.out.symm, (Below.refl _ _).alloc (Nat.le_refl _) _⟩

set_option maxHeartbeats 800000 in
theorem sends_any (a : Option Addr) (xs : List ByteArray) (c : Nat) (a2 : Option Addr) (us : List ByteArray) (c2 : Nat) (w : World) (hl : xs.length ≤ 8192) (hl2 : us.length ≤ 8192) (h : Holds w a xs) (h2 : Holds w a2 us) :
    Calls Trym.prog 16 #[cl a xs.length c, .slice a2 us.length c2] w fun e w' => e = .returned (.bool (allU xs us)) ∧ Below w.heap.size w w' := by
  obtain ⟨H, H2⟩ : Hid (Holds w a xs) ∧ Hid (Holds w a2 us) := ⟨h, h2⟩
  clear h h2
  go_enter Trym.func16, Trym.ntmps16
  go_wp2
  go_loopw [9] (fun i wr => ∃ k : Nat, k ≤ us.length ∧ i = .int .i64 k ∧ Hid (allU xs us = allU xs (us.drop k)) ∧ Below (w.heap.size + 1) (w.alloc (clBox a xs.length c)) wr) (fun i _ => us.length - (intOf i).toNat)
  case atStart => exact ⟨0, Nat.zero_le _, rfl, rfl, Below.refl _ _⟩
  case round =>
    obtain ⟨k, hk, rfl, HC, hb⟩ := hrel
    have hb0 : Below w.heap.size w wr := ((Below.refl _ _).alloc (Nat.le_refl _) _).trans (hb.mono (by omega))
    by_cases hlt : k < us.length
    · obtain ⟨b, off, rfl, hbl, hc0⟩ := H2.out k hlt
      have hlti : (k : Int) < us.length := by omega
      obtain ⟨t, ht⟩ : ∃ t, t = us.getD k ByteArray.empty := ⟨_, rfl⟩
      have hc : wr.cell? ⟨b, off + k, none⟩ = some (.string t) := by rw [ht, hb0.cell (p := ⟨b, off + k, none⟩) hbl]; exact hc0
      have HT : Hid (allU xs (us.drop k) = (hasU xs t && allU xs (us.drop (k + 1)))) := allU_step xs us k hlt ht
      clear ht hc0
      have cf : ∀ i, i < 7 → wr.cell? ⟨w.heap.size, i, none⟩ = (w.alloc (clBox a xs.length c)).cell? ⟨w.heap.size, i, none⟩ := fun i _ => hb.cell (p := ⟨w.heap.size, i, none⟩) (by simp)
      have q0 := cf 0 (by omega)
      have q1 := cf 1 (by omega)
      have q2 := cf 2 (by omega)
      have q3 := cf 3 (by omega)
      have q4 := cf 4 (by omega)
      have q5 := cf 5 (by omega)
      have q6 := cf 6 (by omega)
      simp at q0 q1 q2 q3 q4 q5 q6
      clear cf
      go_wp2_with fail
      refine (has_any a xs c t _ hl (H.out.later hb0 (Nat.le_refl _))).mono ?_
      rintro e w2 ⟨rfl, hb2⟩
      have hb3 : Below (w.heap.size + 1) (w.alloc (clBox a xs.length c)) w2 := hb.trans (hb2.mono (by have := hb.size; simp at this; omega))
      clear hb2 q0 q1 q2 q3 q4 q5 q6
      by_cases hq : hasU xs t = true
      · have E : Hid (allU xs (us.drop k) = allU xs (us.drop (k + 1))) := by unfold Hid; rw [HT.out, hq]; rfl
        go_wp2
        go_roundw
        case rel => exact ⟨k + 1, by omega, by go_num, HC.out.trans E.out, hb3⟩
        case measure => simp [intOf]; omega
      · replace hq : hasU xs t = false := by simpa using hq
        have E : Hid (allU xs us = false) := by unfold Hid; rw [HC.out, HT.out, hq]; rfl
        go_wp2
        go_ret
        exact ⟨ret_bool E.out.symm, ((Below.refl _ _).alloc (Nat.le_refl _) _).trans (hb3.mono (by omega))⟩
    · have E : Hid (allU xs us = true) := HC.out.trans (by rw [List.drop_of_length_le (by omega)]; rfl)
      go_wp2
      go_ret
      exact ⟨ret_bool E.out.symm, hb0⟩

theorem zzsends_any (a : Option Addr) (xs : List ByteArray) (c : Nat) (a2 : Option Addr) (us : List ByteArray) (c2 : Nat) (w : World) (hl : xs.length ≤ 8192) (hl2 : us.length ≤ 8192) (h : Holds w a xs) (h2 : Holds w a2 us) :
    Calls Trym.prog 14 #[cl a xs.length c, .slice a2 us.length c2] w fun e w' => e = .returned (.bool (allU xs us)) ∧ Below w.heap.size w w' := by
  obtain ⟨H, H2⟩ : Hid (Holds w a xs) ∧ Hid (Holds w a2 us) := ⟨h, h2⟩
  clear h h2
  go_enter Trym.func14, Trym.ntmps14
  go_wp2_with fail
  have hb1 : Below w.heap.size w (w.alloc (clBox a xs.length c)) := (Below.refl _ _).alloc (Nat.le_refl _) _
  refine (sends_any a xs c a2 us c2 _ hl hl2 (H.out.later hb1 (Nat.le_refl _)) (H2.out.later hb1 (Nat.le_refl _))).mono ?_
  rintro e w' ⟨rfl, hb2⟩
  have hb3 : Below w.heap.size w w' := hb1.trans (hb2.mono (by simp))
  clear hb1 hb2
  go_wp2
  go_ret
  exact ⟨rfl, hb3⟩

end Go.Proofs.Qxb6604150aMods
