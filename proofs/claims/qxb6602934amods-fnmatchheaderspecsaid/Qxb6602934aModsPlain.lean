/- The plain law of FnMatchHeaderSpec: where the names are distinct the greedy match is the dynamic program's, and its places are the unique ones. -/
import Derived.Test.Qxb6602934aModsEmb
import Derived.Test.Qxb6602934aModsDist
namespace Go.Proofs.Qxb6602934aMods
open Go.RowKit

section
variable {f : Nat → ByteArray} {g : Nat → Bool} {got : Nat → ByteArray} {n m : Nat}

theorem dp_takes (r j : Nat) (hr : r ≤ n) (hj : j < m) (h : dp f g got n m r j = true) : ∃ k, n - r ≤ k ∧ k < n ∧ f k = got j := by
  induction r with
  | zero => simp [dp] at h; omega
  | succ r ih =>
    simp only [dp, Bool.or_eq_true, Bool.and_eq_true, decide_eq_true_eq] at h
    rcases h with ⟨⟨_, h⟩, _⟩ | ⟨_, h⟩
    · exact ⟨n - 1 - r, by omega, by omega, h.symm⟩
    · obtain ⟨k, h1, h2, h3⟩ := ih (by omega) h
      exact ⟨k, by omega, h2, h3⟩

theorem greedy_at (hd : Dis f n n) (r : Nat) : ∀ i, i + r = n → (dp f g got n m (n - i) (nx f got m i) = true ↔ (∀ j, i ≤ j → j < n → hit f got m j ∨ g j = true) ∧ nx f got m n = m) := by
  induction r with
  | zero =>
    intro i hi
    obtain rfl : i = n := by omega
    rw [Nat.sub_self]
    simp only [dp, decide_eq_true_eq]
    exact ⟨fun h => ⟨fun j h1 h2 => by omega, h⟩, fun h => h.2⟩
  | succ r ih =>
    intro i hi
    have IH := ih (i + 1) (by omega)
    rw [dp_step (by omega)]
    by_cases hh : hit f got m i
    · rw [nx_hit hh] at IH
      simp only [Bool.or_eq_true, Bool.and_eq_true, decide_eq_true_eq]
      constructor
      · rintro (⟨_, h⟩ | ⟨_, h⟩)
        · obtain ⟨h1, h2⟩ := IH.1 h
          refine ⟨fun j hj1 hj2 => ?_, h2⟩
          by_cases e : j = i
          · subst e; exact Or.inl hh
          · exact h1 j (by omega) hj2
        · obtain ⟨k, h1, h2, h3⟩ := dp_takes _ _ (by omega) hh.1 h
          exact absurd (hh.2.symm.trans h3.symm) (hd i k (by omega) (by omega) h2)
      · rintro ⟨h1, h2⟩
        exact Or.inl ⟨hh, IH.2 ⟨fun j hj1 hj2 => h1 j (by omega) hj2, h2⟩⟩
    · rw [nx_miss hh] at IH
      simp only [Bool.or_eq_true, Bool.and_eq_true, decide_eq_true_eq]
      constructor
      · rintro (⟨h, _⟩ | ⟨hg, h⟩)
        · exact absurd h hh
        · obtain ⟨h1, h2⟩ := IH.1 h
          refine ⟨fun j hj1 hj2 => ?_, h2⟩
          by_cases e : j = i
          · subst e; exact Or.inr hg
          · exact h1 j (by omega) hj2
      · rintro ⟨h1, h2⟩
        refine Or.inr ⟨?_, IH.2 ⟨fun j hj1 hj2 => h1 j (by omega) hj2, h2⟩⟩
        rcases h1 i (Nat.le_refl _) (by omega) with h | h
        · exact absurd h hh
        · exact h

theorem greedy (hd : Dis f n n) : dp f g got n m n 0 = true ↔ okUpTo f g got m n ∧ nx f got m n = m := by
  have h := greedy_at (g := g) (got := got) (m := m) hd n 0 (by omega)
  rw [Nat.sub_zero] at h
  exact h.trans ⟨fun h => ⟨fun j hj => h.1 j (Nat.zero_le _) hj, h.2⟩, fun h => ⟨fun j _ hj => h.1 j hj, h.2⟩⟩

theorem taken (i : Nat) : ∀ j, j < nx f got m i → ∃ k, k < i ∧ hit f got m k ∧ nx f got m k = j := by
  induction i with
  | zero => intro j hj; simp [nx] at hj
  | succ i ih =>
    intro j hj
    by_cases hh : hit f got m i
    · rw [nx_hit hh] at hj
      by_cases e : j = nx f got m i
      · exact ⟨i, by omega, hh, e.symm⟩
      · obtain ⟨k, h1, h2, h3⟩ := ih j (by omega)
        exact ⟨k, by omega, h2, h3⟩
    · rw [nx_miss hh] at hj
      obtain ⟨k, h1, h2, h3⟩ := ih j hj
      exact ⟨k, by omega, h2, h3⟩

theorem place_ix (hd : Dis f n n) (hm : nx f got m n = m) (i : Nat) (hi : i < n) : IsIx got m (f i) (atV f got m i) := by
  by_cases hh : hit f got m i
  · refine Or.inl ⟨nx f got m i, hh.1, atV_hit hh, hh.2, fun j hj e => ?_⟩
    obtain ⟨k, h1, h2, h3⟩ := taken i j hj
    have e2 := h2.2
    rw [h3, e] at e2
    exact hd k i (by omega) h1 hi e2.symm
  · refine Or.inr ⟨atV_miss hh, fun j hj e => ?_⟩
    obtain ⟨k, h1, h2, h3⟩ := taken (f := f) (got := got) (m := m) n j (by omega)
    have e2 := h2.2
    rw [h3, e] at e2
    by_cases hk : k < i
    · exact hd k i (by omega) hk hi e2.symm
    · by_cases hk2 : i < k
      · exact hd i k hi hk2 h1 e2
      · obtain rfl : k = i := by omega
        exact hh h2
end
end Go.Proofs.Qxb6602934aMods
