/-
  THE WALK of the law FnSendsAllMonotoneInRegistrations.
-/
import Derived.Test.Qxb6604150aModsSends
namespace Go.Proofs.Qxb6604150aMods.fnSendsAllMonotoneInRegistrations
open Go.RowKit

theorem has_mem (xs : List ByteArray) (u : ByteArray) (h : u ∈ xs) : hasU xs u = true := List.any_eq_true.2 ⟨u, h, by simp⟩

theorem has_more (xs ys : List ByteArray) (u : ByteArray) (h : hasU xs u = true) : hasU (xs ++ ys) u = true := by
  unfold hasU at *
  rw [List.any_append, h]
  rfl

/-- A list has all of its own. -/
theorem all_own (xs : List ByteArray) : allU xs xs = true := List.all_eq_true.2 fun u hu => has_mem xs u hu

/-- A longer list has all that the shorter one has. -/
theorem all_more (xs ys us : List ByteArray) (h : allU xs us = true) : allU (xs ++ ys) us = true :=
  List.all_eq_true.2 fun u hu => has_more xs ys u (List.all_eq_true.1 h u hu)

/-- A list beyond the bounds: true at once. -/
theorem early (a0 a1 a2 : Option Addr) (n0 n1 n2 c0 c1 c2 : Nat) (w : World) (l0 : n0 ≤ 9223372036854775807) (l1 : n1 ≤ 9223372036854775807) (l2 : n2 ≤ 9223372036854775807)
    (HB : Hid (∀ w' : World, w' = w → Calls Trym.prog 10 #[.slice a0 n0 c0, .slice a1 n1 c1, .slice a2 n2 c2] w' fun e w' => IsBool e ∧ w' = w)) (h : ¬ (n0 ≤ 4096 ∧ n1 ≤ 4096 ∧ n2 ≤ 4096)) :
    Calls Trym.prog 5 #[.slice a0 n0 c0, .slice a1 n1 c1, .slice a2 n2 c2] w fun e w' => e = .returned (.bool true) ∧ Below w.heap.size w w' := by
  by_cases h0 : n0 ≤ 4096
  · by_cases h1 : n1 ≤ 4096
    · have h2 : ¬ n2 ≤ 4096 := fun e => h ⟨h0, h1, e⟩
      clear h
      go_enter Trym.func5, Trym.ntmps5
      go_wp2_with fail
      refine (HB.out _ rfl).mono ?_
      rintro e w' ⟨⟨b, rfl⟩, hw⟩
      subst hw
      cases b <;> (go_wp2; go_ret; exact ⟨rfl, Below.refl _ _⟩)
    · clear h
      go_enter Trym.func5, Trym.ntmps5
      go_wp2_with fail
      refine (HB.out _ rfl).mono ?_
      rintro e w' ⟨⟨b, rfl⟩, hw⟩
      subst hw
      cases b <;> (go_wp2; go_ret; exact ⟨rfl, Below.refl _ _⟩)
  · clear h
    go_enter Trym.func5, Trym.ntmps5
    go_wp2_with fail
    refine (HB.out _ rfl).mono ?_
    rintro e w' ⟨⟨b, rfl⟩, hw⟩
    subst hw
    cases b <;> (go_wp2; go_ret; exact ⟨rfl, Below.refl _ _⟩)

/-- A client lies in block b. -/
def CB (w : World) (b : Nat) (a : Option Addr) (n c : Nat) : Prop :=
  b < w.heap.size ∧ w.cell? ⟨b, 0, none⟩ = some (.string ⟨#[]⟩) ∧ w.cell? ⟨b, 1, none⟩ = some (.string ⟨#[]⟩) ∧ w.cell? ⟨b, 2, none⟩ = some (.slice a n c) ∧ w.cell? ⟨b, 3, none⟩ = some (.string ⟨#[]⟩) ∧
  w.cell? ⟨b, 4, none⟩ = some (.string ⟨#[]⟩) ∧ w.cell? ⟨b, 5, none⟩ = some (.bool false) ∧ w.cell? ⟨b, 6, none⟩ = some (.bool false)

theorem CB.made (w : World) (a : Option Addr) (n c : Nat) : CB (w.alloc (clBox a n c)) w.heap.size a n c := by
  refine ⟨by simp, ?_, ?_, ?_, ?_, ?_, ?_, ?_⟩ <;> simp

theorem CB.later {w w' : World} {b : Nat} {a : Option Addr} {n c : Nat} (h : CB w b a n c) {B : Nat} (hb : Below B w w') (hB : w.heap.size ≤ B) : CB w' b a n c := by
  obtain ⟨h0, q0, q1, q2, q3, q4, q5, q6⟩ := h
  have e : ∀ i, w'.cell? ⟨b, i, none⟩ = w.cell? ⟨b, i, none⟩ := fun i => hb.cell (p := ⟨b, i, none⟩) (Nat.lt_of_lt_of_le h0 hB)
  refine ⟨Nat.lt_of_lt_of_le h0 hb.size, ?_, ?_, ?_, ?_, ?_, ?_, ?_⟩ <;> rw [e] <;> assumption

set_option maxHeartbeats 1000000 in
theorem core (a0 a1 a2 : Option Addr) (x0 x1 x2 : List ByteArray) (c0 c1 c2 : Nat) (w : World)
    (s0 : ∀ x ∈ x0, x.size ≤ 9223372036854775807) (s1 : ∀ x ∈ x1, x.size ≤ 9223372036854775807) (s2 : ∀ x ∈ x2, x.size ≤ 9223372036854775807) (h0 : Holds w a0 x0) (h1 : Holds w a1 x1) (h2 : Holds w a2 x2)
    (n0 : a0 = none → x0 = []) (n1 : a1 = none → x1 = []) (n2 : a2 = none → x2 = []) (l0 : x0.length ≤ 4096) (l1 : x1.length ≤ 4096) (l2 : x2.length ≤ 4096) :
    Calls Trym.prog 5 #[.slice a0 x0.length c0, .slice a1 x1.length c1, .slice a2 x2.length c2] w fun e w' => e = .returned (.bool true) ∧ Below w.heap.size w w' := by
  have HB : Hid (Calls Trym.prog 10 #[.slice a0 x0.length c0, .slice a1 x1.length c1, .slice a2 x2.length c2] w fun e w' => IsBool e ∧ w' = w) := bound_any a0 a1 a2 x0 x1 x2 c0 c1 c2 w (by omega) (by omega) (by omega) s0 s1 s2 h0 h1 h2
  have C0 : Hid (Calls Trym.prog 11 #[.slice a0 x0.length c0] w fun e w' => (∃ z, e = .returned (.int .i64 z)) ∧ w' = w) := count_any a0 x0 c0 w (by omega) s0 h0
  have C1 : Hid (Calls Trym.prog 11 #[.slice a1 x1.length c1] w fun e w' => (∃ z, e = .returned (.int .i64 z)) ∧ w' = w) := count_any a1 x1 c1 w (by omega) s1 h1
  have C2 : Hid (Calls Trym.prog 11 #[.slice a2 x2.length c2] w fun e w' => (∃ z, e = .returned (.int .i64 z)) ∧ w' = w) := count_any a2 x2 c2 w (by omega) s2 h2
  obtain ⟨H0, H1, H2⟩ : Hid (Holds w a0 x0) ∧ Hid (Holds w a1 x1) ∧ Hid (Holds w a2 x2) := ⟨h0, h1, h2⟩
  obtain ⟨N0, N1, N2⟩ : Hid (a0 = none → x0 = []) ∧ Hid (a1 = none → x1 = []) ∧ Hid (a2 = none → x2 = []) := ⟨n0, n1, n2⟩
  clear h0 h1 h2 s0 s1 s2 n0 n1 n2
  go_enter Trym.func5, Trym.ntmps5
  go_wp2_with fail
  refine HB.out.mono ?_
  rintro e w' ⟨⟨b, rfl⟩, hw⟩
  subst hw
  cases b
  · go_wp2
    go_ret
    exact ⟨rfl, Below.refl _ _⟩
  · go_wp2_with fail
    refine C0.out.mono ?_
    rintro e w'' ⟨⟨z0, rfl⟩, hw⟩
    subst hw
    go_wp2_with fail
    refine C1.out.mono ?_
    rintro e w'' ⟨⟨z1, rfl⟩, hw⟩
    subst hw
    go_wp2_with fail
    refine C2.out.mono ?_
    rintro e w'' ⟨⟨z2, rfl⟩, hw⟩
    subst hw
    clear HB C0 C1 C2
    go_wp2_with fail
    · go_ret
      exact ⟨rfl, Below.refl _ _⟩
    · refine (clone_any a0 x0 c0 _ l0 H0.out N0.out).mono ?_
      rintro e w1 ⟨p0, d0, rfl, k0, b1⟩
      have K0 : Hid (Holds w1 p0 x0) := k0
      clear k0
      go_wp2_with fail
      refine (clone_any a1 x1 c1 _ l1 (H1.out.later b1 (Nat.le_refl _)) N1.out).mono ?_
      rintro e w2 ⟨p1, d1, rfl, k1, b2⟩
      have K1 : Hid (Holds w2 p1 x1) := k1
      have hb2 : Below w''.heap.size w'' w2 := b1.trans (b2.mono b1.size)
      clear k1 b1
      go_wp2_with fail
      refine (clone_any a2 x2 c2 _ l2 (H2.out.later hb2 (Nat.le_refl _)) N2.out).mono ?_
      rintro e w3 ⟨p2, d2, rfl, k2, b3⟩
      have B4 : Below w3.heap.size w3 (w3.alloc (clBox p0 x0.length d0)) := (Below.refl _ _).alloc (Nat.le_refl _) _
      have J0 : Hid (Holds (w3.alloc (clBox p0 x0.length d0)) p0 x0) := ((K0.out.later b2 (Nat.le_refl _)).later b3 (Nat.le_refl _)).later B4 (Nat.le_refl _)
      have J1 : Hid (Holds (w3.alloc (clBox p0 x0.length d0)) p1 x1) := (K1.out.later b3 (Nat.le_refl _)).later B4 (Nat.le_refl _)
      have J2 : Hid (Holds (w3.alloc (clBox p0 x0.length d0)) p2 x2) := Holds.later k2 B4 (Nat.le_refl _)
      have hb4 : Below w''.heap.size w'' (w3.alloc (clBox p0 x0.length d0)) := (hb2.trans (b3.mono hb2.size)).trans (B4.mono (Nat.le_trans hb2.size b3.size))
      have D4 : Hid (CB (w3.alloc (clBox p0 x0.length d0)) w3.heap.size p0 x0.length d0) := CB.made w3 p0 x0.length d0
      clear k2 K0 K1 b2 b3 hb2 B4 H0 H1 H2 N0 N1 N2
      go_wp2_with fail
      refine (concat_any p0 p1 x0 x1 d0 d1 _ l0 l1 J0.out J1.out).mono ?_
      obtain ⟨X, hX⟩ : ∃ X, X = x0 ++ x1 := ⟨_, rfl⟩
      rw [← hX]
      rintro e w5 ⟨p3, d3, rfl, k3, b5⟩
      have l3 : X.length ≤ 8192 := by rw [hX, List.length_append]; omega
      have HX : Hid (X = x0 ++ x1) := hX
      clear hX
      have B6 : Below w5.heap.size w5 (w5.alloc (clBox p3 X.length d3)) := (Below.refl _ _).alloc (Nat.le_refl _) _
      have M0 : Hid (Holds (w5.alloc (clBox p3 X.length d3)) p0 x0) := (J0.out.later b5 (Nat.le_refl _)).later B6 (Nat.le_refl _)
      have M2 : Hid (Holds (w5.alloc (clBox p3 X.length d3)) p2 x2) := (J2.out.later b5 (Nat.le_refl _)).later B6 (Nat.le_refl _)
      have M3 : Hid (Holds (w5.alloc (clBox p3 X.length d3)) p3 X) := Holds.later k3 B6 (Nat.le_refl _)
      have hb6 : Below w''.heap.size w'' (w5.alloc (clBox p3 X.length d3)) := (hb4.trans (b5.mono hb4.size)).trans (B6.mono (Nat.le_trans hb4.size b5.size))
      have D5 : Hid (CB w5 w3.heap.size p0 x0.length d0) := D4.out.later b5 (Nat.le_refl _)
      have D6 : Hid (CB (w5.alloc (clBox p3 X.length d3)) w3.heap.size p0 x0.length d0) := D5.out.later B6 (Nat.le_refl _)
      have E6 : Hid (CB (w5.alloc (clBox p3 X.length d3)) w5.heap.size p3 X.length d3) := CB.made w5 p3 X.length d3
      clear k3 J0 J1 J2 b5 B6 hb4 D4
      obtain ⟨u0, q0, q1, q2, q3, q4, q5, q6⟩ := D5.out
      clear D5
      go_wp2_with fail
      refine (zzsends_any p0 x0 d0 p0 x0 d0 _ (by omega) (by omega) M0.out M0.out).mono ?_
      rintro e w7 ⟨rfl, b7⟩
      have e7 : allU x0 x0 = true := all_own x0
      rw [e7]
      clear e7 q0 q1 q2 q3 q4 q5 q6 u0
      have P0 : Hid (Holds w7 p0 x0) := M0.out.later b7 (Nat.le_refl _)
      have P2 : Hid (Holds w7 p2 x2) := M2.out.later b7 (Nat.le_refl _)
      have P3 : Hid (Holds w7 p3 X) := M3.out.later b7 (Nat.le_refl _)
      have D7 : Hid (CB w7 w3.heap.size p0 x0.length d0) := D6.out.later b7 (Nat.le_refl _)
      have E7 : Hid (CB w7 w5.heap.size p3 X.length d3) := E6.out.later b7 (Nat.le_refl _)
      have hb7 : Below w''.heap.size w'' w7 := hb6.trans (b7.mono hb6.size)
      clear M0 M2 M3 D6 E6 hb6 b7
      obtain ⟨u0, q0, q1, q2, q3, q4, q5, q6⟩ := E7.out
      go_wp2_with fail
      refine (zzsends_any p3 X d3 p0 x0 d0 _ l3 (by omega) P3.out P0.out).mono ?_
      rintro e w8 ⟨rfl, b8⟩
      have e8 : allU X x0 = true := by rw [HX.out]; exact all_more x0 x1 x0 (all_own x0)
      rw [e8]
      clear e8 q0 q1 q2 q3 q4 q5 q6 u0
      have R0 : Hid (Holds w8 p0 x0) := P0.out.later b8 (Nat.le_refl _)
      have R2 : Hid (Holds w8 p2 x2) := P2.out.later b8 (Nat.le_refl _)
      have R3 : Hid (Holds w8 p3 X) := P3.out.later b8 (Nat.le_refl _)
      have D8 : Hid (CB w8 w3.heap.size p0 x0.length d0) := D7.out.later b8 (Nat.le_refl _)
      have E8 : Hid (CB w8 w5.heap.size p3 X.length d3) := E7.out.later b8 (Nat.le_refl _)
      have hb8 : Below w''.heap.size w'' w8 := hb7.trans (b8.mono hb7.size)
      clear P0 P2 P3 D7 E7 hb7 b8
      obtain ⟨u0, q0, q1, q2, q3, q4, q5, q6⟩ := D8.out
      go_wp2_with fail
      refine (zzsends_any p0 x0 d0 p2 x2 d2 _ (by omega) (by omega) R0.out R2.out).mono ?_
      rintro e w9 ⟨rfl, b9⟩
      clear q0 q1 q2 q3 q4 q5 q6 u0
      have T2 : Hid (Holds w9 p2 x2) := R2.out.later b9 (Nat.le_refl _)
      have T3 : Hid (Holds w9 p3 X) := R3.out.later b9 (Nat.le_refl _)
      have E9 : Hid (CB w9 w5.heap.size p3 X.length d3) := E8.out.later b9 (Nat.le_refl _)
      have hb9 : Below w''.heap.size w'' w9 := hb8.trans (b9.mono hb8.size)
      clear R0 R2 R3 D8 E8 hb8 b9
      by_cases hq : allU x0 x2 = true
      · have e10 : Hid (allU X x2 = true) := by unfold Hid; rw [HX.out]; exact all_more x0 x1 x2 hq
        rw [hq]
        clear hq
        obtain ⟨u0, q0, q1, q2, q3, q4, q5, q6⟩ := E9.out
        go_wp2_with fail
        refine (zzsends_any p3 X d3 p2 x2 d2 _ l3 (by omega) T3.out T2.out).mono ?_
        rintro e w10 ⟨rfl, b10⟩
        rw [e10.out]
        clear q0 q1 q2 q3 q4 q5 q6 u0
        have hb10 : Below w''.heap.size w'' w10 := hb9.trans (b10.mono hb9.size)
        clear b10 E9 T2 T3
        go_wp2
        go_ret
        exact ⟨rfl, hb10⟩
      · replace hq : allU x0 x2 = false := by simpa using hq
        rw [hq]
        clear hq
        go_wp2
        go_ret
        exact ⟨rfl, hb9⟩
end Go.Proofs.Qxb6604150aMods.fnSendsAllMonotoneInRegistrations
