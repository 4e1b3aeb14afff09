import Derived.Test.Qxb6603699aPlainA
namespace Go.Proofs.Qxb6603699a

/-- every place in it is within the text; there are no more elements than bytes -/
theorem amL_bd (t : Nat → Int) (n : Nat) : ∀ f p L, p ≤ n → (∀ x ∈ L, x.1 ≤ n ∧ x.2 ≤ n) → (∀ x ∈ (amL t n f p L).1, x.1 ≤ n ∧ x.2 ≤ n) ∧ (amL t n f p L).1.length ≤ L.length + (n - p)
  | 0, p, L, _, _ => by simp [amL]
  | f + 1, p, L, hp, hL => by
    unfold amL
    by_cases hv : (valF t n p).1 = true
    · rw [if_pos hv]
      have b1 := valF_bd t n p hp
      have b2 := b1.2 hv
      have b3 := skip_bd t n (valF t n p).2 b1.1
      have hL' : ∀ x ∈ L ++ [(p, (valF t n p).2)], x.1 ≤ n ∧ x.2 ≤ n := fun x hx => by
        rcases List.mem_append.1 hx with h | h
        · exact hL x h
        · have : x = (p, (valF t n p).2) := by simpa using h
          subst this
          exact ⟨hp, b1.1⟩
      by_cases hm : skip t n (valF t n p).2 < n ∧ t (skip t n (valF t n p).2) = 44
      · rw [if_pos hm]
        have b4 := skip_bd t n (skip t n (valF t n p).2 + 1) (by omega)
        have ih := amL_bd t n f (skip t n (skip t n (valF t n p).2 + 1)) (L ++ [(p, (valF t n p).2)]) b4.2 hL'
        refine ⟨ih.1, ?_⟩
        have := ih.2
        rw [List.length_append] at this
        simp at this
        omega
      · rw [if_neg hm]
        split
        · exact ⟨hL', by simp; omega⟩
        · exact ⟨hL', by simp; omega⟩
    · rw [if_neg hv]
      simp

theorem arr_bd (t : Nat → Int) (n i : Nat) : (∀ x ∈ (arr t n i).1, x.1 ≤ n ∧ x.2 ≤ n) ∧ (arr t n i).1.length ≤ n := by
  unfold arr
  split
  · simp
  · rename_i h
    split
    · simp
    · have b := skip_bd t n (i + 1) (by omega)
      have := amL_bd t n (n + 1 - skip t n (i + 1)) (skip t n (i + 1)) [] b.2 (by simp)
      refine ⟨this.1, ?_⟩
      have h2 := this.2
      simp at h2
      show (amL t n (n + 1 - skip t n (i + 1)) (skip t n (i + 1)) []).1.length ≤ n
      omega

end Go.Proofs.Qxb6603699a
