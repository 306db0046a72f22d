/-
  PLAIN LAWS: what 'take' and 'put' choose, against what the laws' own model says.
-/
import Derived.Test.Qxb6600582aModsPut
namespace Go.Proofs.Qxb6600582aMods

theorem bst_spec (N : Nat → Nat) (n : Nat) : ∀ k,
    (bst N n k = -1 ∧ ∀ i, i < k → N i < n) ∨
    (∃ j : Nat, j < k ∧ bst N n k = j ∧ n ≤ N j ∧ (∀ i, i < k → n ≤ N i → N j ≤ N i) ∧ ∀ i, i < j → n ≤ N i → N j < N i)
  | 0 => .inl ⟨rfl, fun i hi => by omega⟩
  | k + 1 => by
    rcases bst_spec N n k with ⟨hb, h⟩ | ⟨j, hj, hb, h1, h2, h3⟩
    · by_cases hk : n ≤ N k
      · refine .inr ⟨k, by omega, bst_take N n k hk (.inl (by omega)), hk, fun i hi hn => ?_, fun i hi hn => ?_⟩
        · by_cases e : i = k
          · subst e; exact Nat.le_refl _
          · have := h i (by omega); omega
        · have := h i hi; omega
      · refine .inl ⟨(bst_small N n k hk).trans hb, fun i hi => ?_⟩
        by_cases e : i = k
        · subst e; omega
        · exact h i (by omega)
    · by_cases hk : n ≤ N k
      · by_cases hl : N k < N j
        · refine .inr ⟨k, by omega, bst_take N n k hk (.inr (by rw [hb]; simpa using hl)), hk, fun i hi hn => ?_, fun i hi hn => ?_⟩
          · by_cases e : i = k
            · subst e; exact Nat.le_refl _
            · have := h2 i (by omega) hn; omega
          · have := h2 i hi hn; omega
        · refine .inr ⟨j, by omega, (bst_keep N n k (by rw [hb]; simp; omega)).trans hb, h1, fun i hi hn => ?_, h3⟩
          by_cases e : i = k
          · subst e; omega
          · exact h2 i (by omega) hn
      · refine .inr ⟨j, by omega, (bst_small N n k hk).trans hb, h1, fun i hi hn => ?_, h3⟩
        by_cases e : i = k
        · subst e; omega
        · exact h2 i (by omega) hn

theorem sml_spec (N : Nat → Nat) : ∀ k, (∀ i, i < k → N (sml N k) ≤ N i) ∧ ∀ i, i < sml N k → N (sml N k) < N i
  | 0 => ⟨fun i hi => by omega, fun i hi => by simp [sml] at hi⟩
  | k + 1 => by
    obtain ⟨h1, h2⟩ := sml_spec N k
    by_cases hl : N k < N (sml N k)
    · have e : sml N (k + 1) = k := if_pos hl
      rw [e]
      refine ⟨fun i hi => ?_, fun i hi => ?_⟩
      · by_cases e' : i = k
        · subst e'; exact Nat.le_refl _
        · have := h1 i (by omega); omega
      · have := h1 i hi; omega
    · have e : sml N (k + 1) = sml N k := if_neg hl
      rw [e]
      refine ⟨fun i hi => ?_, h2⟩
      by_cases e' : i = k
      · subst e'; omega
      · exact h1 i (by omega)

/-- Nothing fits: no sorted number is n or more. -/
theorem none_fits (N s : Nat → Nat) (n : Nat) (hL : Like s N) (hb : bst N n 4 = -1) : ∀ i, i < 4 → s i < n := by
  intro i hi
  obtain ⟨j, hj, e⟩ := hL.1 i hi
  rcases bst_spec N n 4 with ⟨_, h⟩ | ⟨j', _, hb', _⟩
  · rw [e]; exact h j hj
  · omega

/-- Something fits: some sorted number is n or more. -/
theorem some_fits (N s : Nat → Nat) (n j : Nat) (hL : Like s N) (hb : bst N n 4 = j) : ∃ i, i < 4 ∧ n ≤ s i := by
  rcases bst_spec N n 4 with ⟨hb', _⟩ | ⟨j', hj', hb', h1, _⟩
  · omega
  · obtain ⟨i, hi, e⟩ := hL.2 j' hj'
    exact ⟨i, hi, by omega⟩

/-- The first place that holds the first sorted number of n or more is the place that 'take' chose. -/
theorem same_place (N s : Nat → Nat) (n j k j' : Nat) (hL : Like s N) (hS : ∀ p q, p < q → q < 4 → s p ≤ s q) (hb : bst N n 4 = j) (_hk : k < 4) (hlow : ∀ p, p < k → s p < n) (hge : n ≤ s k)
    (hj' : j' < 4) (e' : N j' = s k) (hfirst : ∀ p, p < j' → N p ≠ s k) : j' = j := by
  rcases bst_spec N n 4 with ⟨hb', _⟩ | ⟨i, hi, hb', h1, h2, h3⟩
  · omega
  · have hij : i = j := by omega
    subst hij
    -- the value chosen is the sorted number
    have hv : N i = s k := by
      have a := h2 j' hj' (by omega)
      obtain ⟨q, hq, eq⟩ := hL.2 i hi
      have : ¬ q < k := fun h => by have := hlow q h; omega
      have b : s k ≤ s q := by
        by_cases e : q = k
        · rw [e]; exact Nat.le_refl _
        · exact hS k q (by omega) hq
      omega
    by_cases c : j' < i
    · have := h3 j' c (by omega); omega
    · by_cases c2 : i < j'
      · exact absurd hv (hfirst i c2)
      · omega

/-- The least number, and its first place. -/
theorem least (N s : Nat → Nat) (hL : Like s N) (hS : ∀ p q, p < q → q < 4 → s p ≤ s q) : N (sml N 4) = s 0 := by
  obtain ⟨h1, _⟩ := sml_spec N 4
  have hs := sml_lt N 4 (by omega)
  obtain ⟨j, hj, e⟩ := hL.1 0 (by omega)
  obtain ⟨q, hq, eq⟩ := hL.2 (sml N 4) hs
  have a := h1 j hj
  have b : s 0 ≤ s q := by
    by_cases c : q = 0
    · rw [c]; exact Nat.le_refl _
    · exact hS 0 q (by omega) hq
  omega

theorem least_place (N s : Nat → Nat) (hL : Like s N) (hS : ∀ p q, p < q → q < 4 → s p ≤ s q) (j : Nat) (e : N j = s 0) (hfirst : ∀ p, p < j → N p ≠ s 0) : j = sml N 4 := by
  have hv := least N s hL hS
  obtain ⟨_, h2⟩ := sml_spec N 4
  by_cases c : j < sml N 4
  · have := h2 j c; omega
  · by_cases c2 : sml N 4 < j
    · exact absurd hv (hfirst _ c2)
    · omega

end Go.Proofs.Qxb6600582aMods
