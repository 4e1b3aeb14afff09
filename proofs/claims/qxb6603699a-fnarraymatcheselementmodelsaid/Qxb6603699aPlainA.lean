/-
  THE PLAIN LAWS for the array of elements: no Go in sight.
-/
import Derived.Test.Qxb6603699aPlain
namespace Go.Proofs.Qxb6603699a

def skF (t : Nat → Int) : Nat → Nat → Nat
  | 0, p => p
  | f + 1, p => if isSp (t p) = true then skF t f (p + 1) else p

/-- past the white space from p on -/
def skip (t : Nat → Int) (n p : Nat) : Nat := skF t (n - p) p

theorem skF_bd (t : Nat → Int) : ∀ f p, p ≤ skF t f p ∧ skF t f p ≤ p + f
  | 0, p => by simp [skF]
  | f + 1, p => by
    unfold skF
    split
    · have := skF_bd t f (p + 1); omega
    · omega

theorem skip_bd (t : Nat → Int) (n p : Nat) (h : p ≤ n) : p ≤ skip t n p ∧ skip t n p ≤ n := by
  have := skF_bd t (n - p) p
  unfold skip
  omega

theorem skip_sp (t : Nat → Int) (n p : Nat) (h : p < n) (hs : isSp (t p) = true) : skip t n p = skip t n (p + 1) := by
  unfold skip
  rw [show n - p = (n - (p + 1)) + 1 by omega]
  simp [skF, hs]

theorem skip_stop (t : Nat → Int) (n p : Nat) (hs : isSp (t p) = false) : skip t n p = p := by
  unfold skip
  cases n - p with
  | zero => rfl
  | succ f => simp [skF, hs]

theorem skip_end (t : Nat → Int) (n p : Nat) (h : n ≤ p) : skip t n p = p := by
  unfold skip
  rw [show n - p = 0 by omega]
  rfl

/-- The model's loop over the elements: 'L': the pairs (begin, end) read so far. -/
def amL (t : Nat → Int) (n : Nat) : Nat → Nat → List (Nat × Nat) → List (Nat × Nat) × Bool × Nat
  | 0, p, _ => ([], false, p)
  | f + 1, p, L =>
    if (valF t n p).1 = true then
      if skip t n (valF t n p).2 < n ∧ t (skip t n (valF t n p).2) = 44 then amL t n f (skip t n (skip t n (valF t n p).2 + 1)) (L ++ [(p, (valF t n p).2)])
      else if skip t n (valF t n p).2 < n ∧ t (skip t n (valF t n p).2) = 93 then (L ++ [(p, (valF t n p).2)], true, skip t n (valF t n p).2 + 1)
      else (L ++ [(p, (valF t n p).2)], false, skip t n (valF t n p).2)
    else ([], false, (valF t n p).2)

theorem amL_fuel (t : Nat → Int) (n : Nat) : ∀ f g p L, p ≤ n → n + 1 - p ≤ f → n + 1 - p ≤ g → amL t n f p L = amL t n g p L
  | 0, g, p, L, h, h1, _ => by omega
  | f + 1, 0, p, L, h, _, h2 => by omega
  | f + 1, g + 1, p, L, h, h1, h2 => by
    unfold amL
    by_cases hv : (valF t n p).1 = true
    · rw [if_pos hv, if_pos hv]
      have b1 := valF_bd t n p h
      have b2 := b1.2 hv
      have b3 := skip_bd t n (valF t n p).2 b1.1
      by_cases hm : skip t n (valF t n p).2 < n ∧ t (skip t n (valF t n p).2) = 44
      · rw [if_pos hm, if_pos hm]
        have b4 := skip_bd t n (skip t n (valF t n p).2 + 1) (by omega)
        exact amL_fuel t n f g _ _ (by omega) (by omega) (by omega)
      · rw [if_neg hm, if_neg hm]
    · rw [if_neg hv, if_neg hv]

def am (t : Nat → Int) (n p : Nat) (L : List (Nat × Nat)) : List (Nat × Nat) × Bool × Nat := amL t n (n + 1 - p) p L

theorem am_fail (t : Nat → Int) (n p : Nat) (L : List (Nat × Nat)) (hp : p ≤ n) (hv : (valF t n p).1 = false) : am t n p L = ([], false, (valF t n p).2) := by
  unfold am
  rw [show n + 1 - p = (n - p) + 1 by omega]
  simp [amL, hv]

theorem am_more (t : Nat → Int) (n p : Nat) (L : List (Nat × Nat)) (hp : p ≤ n) (hv : (valF t n p).1 = true) (hq : skip t n (valF t n p).2 < n) (hc : t (skip t n (valF t n p).2) = 44) :
    am t n p L = am t n (skip t n (skip t n (valF t n p).2 + 1)) (L ++ [(p, (valF t n p).2)]) := by
  have b1 := valF_bd t n p hp
  have b2 := b1.2 hv
  have b3 := skip_bd t n (valF t n p).2 b1.1
  have b4 := skip_bd t n (skip t n (valF t n p).2 + 1) (by omega)
  unfold am
  rw [show n + 1 - p = (n - p) + 1 by omega]
  have e : amL t n ((n - p) + 1) p L = amL t n (n - p) (skip t n (skip t n (valF t n p).2 + 1)) (L ++ [(p, (valF t n p).2)]) := by
    simp [amL, hv, hq, hc]
  rw [e]
  exact amL_fuel t n _ _ _ _ (by omega) (by omega) (by omega)

theorem am_close (t : Nat → Int) (n p : Nat) (L : List (Nat × Nat)) (hp : p ≤ n) (hv : (valF t n p).1 = true) (hq : skip t n (valF t n p).2 < n) (hc : t (skip t n (valF t n p).2) = 93) :
    am t n p L = (L ++ [(p, (valF t n p).2)], true, skip t n (valF t n p).2 + 1) := by
  unfold am
  rw [show n + 1 - p = (n - p) + 1 by omega]
  simp [amL, hv, hq, hc]

theorem am_last (t : Nat → Int) (n p : Nat) (L : List (Nat × Nat)) (hp : p ≤ n) (hv : (valF t n p).1 = true) (hc : ¬ (skip t n (valF t n p).2 < n ∧ (t (skip t n (valF t n p).2) = 44 ∨ t (skip t n (valF t n p).2) = 93))) :
    am t n p L = (L ++ [(p, (valF t n p).2)], false, skip t n (valF t n p).2) := by
  have h1 : ¬ (skip t n (valF t n p).2 < n ∧ t (skip t n (valF t n p).2) = 44) := fun h => hc ⟨h.1, Or.inl h.2⟩
  have h2 : ¬ (skip t n (valF t n p).2 < n ∧ t (skip t n (valF t n p).2) = 93) := fun h => hc ⟨h.1, Or.inr h.2⟩
  unfold am
  rw [show n + 1 - p = (n - p) + 1 by omega]
  simp only [amL, hv, if_true, if_neg h1, if_neg h2]

/-- WHAT THE ARRAY AT PLACE i IS: its elements' (begin, end), does it close, where does the reader stand. -/
def arr (t : Nat → Int) (n i : Nat) : List (Nat × Nat) × Bool × Nat :=
  if n ≤ i ∨ t i ≠ 91 then ([], false, i)
  else if skip t n (i + 1) < n ∧ t (skip t n (i + 1)) = 93 then ([], true, skip t n (i + 1) + 1)
  else am t n (skip t n (i + 1)) []

theorem arr_no (t : Nat → Int) (n i : Nat) (h : n ≤ i ∨ t i ≠ 91) : arr t n i = ([], false, i) := by
  unfold arr; rw [if_pos h]
theorem arr_empty (t : Nat → Int) (n i : Nat) (hi : i < n) (h : t i = 91) (hq : skip t n (i + 1) < n) (hc : t (skip t n (i + 1)) = 93) : arr t n i = ([], true, skip t n (i + 1) + 1) := by
  unfold arr
  rw [if_neg (by omega), if_pos ⟨hq, hc⟩]
theorem arr_am (t : Nat → Int) (n i : Nat) (hi : i < n) (h : t i = 91) (hc : ¬ (skip t n (i + 1) < n ∧ t (skip t n (i + 1)) = 93)) : arr t n i = am t n (skip t n (i + 1)) [] := by
  unfold arr
  rw [if_neg (by omega), if_neg hc]

end Go.Proofs.Qxb6603699a
