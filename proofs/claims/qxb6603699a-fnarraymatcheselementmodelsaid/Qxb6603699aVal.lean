import Derived.Test.Qxb6603699aRune
namespace Go.Proofs.Qxb6603699a
open Go.RowKit

set_option maxHeartbeats 400000 in
theorem value_end (sb n : Nat) (a : Option Addr) (w : World) (hS : w.rowIs sb 66 2 (scv (.slice a n n) n)) :
    Calls Try.prog 29 #[.pointer (some ⟨sb, 0, none⟩)] w fun e w' => e = .returned (.bool false) ∧ SameBut sb w w' ∧ w'.rowIs sb 66 2 (scv (.slice a n n) n) := by
  have g0 : w.cell? ⟨sb, 0, none⟩ = some (.slice a n n) := hS.cell (i := 0) (by omega)
  have g1 : w.cell? ⟨sb, 1, none⟩ = some (.int .i64 n) := hS.cell (i := 1) (by omega)
  go_enter Try.func29, Try.ntmps29
  go_wp2
  go_quiet (fail)
  go_wp2
  go_ret
  exact ⟨rfl, (SameBut.refl sb w).drewN nq, row_drewN hS nq⟩

set_option maxHeartbeats 400000 in
theorem value_str (sb tb n i : Nat) (t : Nat → Int) (w : World) (hn : n ≤ 1048576) (ht : ∀ k, 0 ≤ t k ∧ t k ≤ 255) (hi : i < n) (hq : t i = 34) (hS : Sc w sb tb n t i) :
    Calls Try.prog 29 #[.pointer (some ⟨sb, 0, none⟩)] w fun e w' => e = .returned (.bool (valF t n i).1) ∧ SameBut sb w w' ∧ Sc w' sb tb n t (valF t n i).2 := by
  have hv : valF t n i = strR t n i := by
    unfold valF
    rw [if_neg (by omega), if_pos (Or.inl hq), vmL_quote_out t n i hi hq]
  have HV : Hid (valF t n i = strR t n i) := hv
  clear hv
  have HQ : Hid (t i = 34) := hq
  have g0 := hS.c0
  have g1 := hS.c1
  have g3 := hS.ch hi
  have hz : (i : Int) < (n : Int) := by omega
  have hne : ((i : Int) == (n : Int)) = false := beq_eq_false_iff_ne.2 (by omega)
  rw [HV.out]
  go_enter Try.func29, Try.ntmps29
  go_wp2
  go_quiet (fail)
  go_wp2
  go_quiet (fail)
  go_wp2_with (go_at_call 39; refine (str_any sb tb n i t _ hn ht hi HQ.out (by exact hS.drewN _)).mono ?_; rintro e w' ⟨rfl, hs, hS'⟩)
  go_ret
  exact ⟨rfl, ((SameBut.refl sb w).drewN _).trans hs, hS'⟩

theorem vmL_open (t : Nat → Int) (n p : Nat) (d : Int) (hp : p < n) (hq : t p = 123 ∨ t p = 91) : vmL t n (n - p) p d false false = vmL t n (n - (p + 1)) (p + 1) (d + 1) false false := by
  rw [show n - p = (n - (p + 1)) + 1 by omega]
  have : ¬ t p = 34 := by omega
  simp [vmL, this, hq]

theorem vmL_close (t : Nat → Int) (n p : Nat) (d : Int) (hp : p < n) (hq : t p = 125 ∨ t p = 93) : vmL t n (n - p) p d false false = if d = 1 then (true, p + 1) else vmL t n (n - (p + 1)) (p + 1) (d - 1) false false := by
  rw [show n - p = (n - (p + 1)) + 1 by omega]
  have h1 : ¬ t p = 34 := by omega
  have h2 : ¬ (t p = 123 ∨ t p = 91) := by omega
  have h3 : (d - 1 = 0) = (d = 1) := propext ⟨fun h => by omega, fun h => by omega⟩
  simp only [vmL, h1, h2, hq, h3, if_false, if_true, Bool.false_eq_true]

theorem vmL_else (t : Nat → Int) (n p : Nat) (d : Int) (hp : p < n) (h1 : ¬ t p = 34) (h2 : ¬ (t p = 123 ∨ t p = 91)) (h3 : ¬ (t p = 125 ∨ t p = 93)) : vmL t n (n - p) p d false false = vmL t n (n - (p + 1)) (p + 1) d false false := by
  rw [show n - p = (n - (p + 1)) + 1 by omega]
  simp [vmL, h1, h2, h3]

/-- The head of the bracket loop. -/
structure VB (w wr : World) (sb tb n i : Nat) (t : Nat → Int) (p : Nat) (d : Int) : Prop where
  lo : i ≤ p
  hi : p ≤ n
  eq : vmL t n (n - p) p d false false = vmL t n (n - i) i 0 false false
  dep : (p = i ∧ d = 0) ∨ (i < p ∧ 1 ≤ d ∧ d ≤ p)
  same : SameBut sb w wr
  sc : Sc wr sb tb n t p

set_option maxHeartbeats 1000000 in
set_option maxRecDepth 100000 in
theorem value_br (sb tb n i : Nat) (t : Nat → Int) (w : World) (hn : n ≤ 1048576) (ht : ∀ k, 0 ≤ t k ∧ t k ≤ 255) (hi : i < n) (hq : t i = 123 ∨ t i = 91) (hS : Sc w sb tb n t i) :
    Calls Try.prog 29 #[.pointer (some ⟨sb, 0, none⟩)] w fun e w' => e = .returned (.bool (vmL t n (n - i) i 0 false false).1) ∧ SameBut sb w w' ∧ Sc w' sb tb n t (vmL t n (n - i) i 0 false false).2 := by
  have HQ : Hid (t i = 123 ∨ t i = 91) := hq
  have g0 := hS.c0
  have g1 := hS.c1
  have g3 := hS.ch hi
  have hz : (i : Int) < (n : Int) := by omega
  have hne : ((i : Int) == (n : Int)) = false := beq_eq_false_iff_ne.2 (by omega)
  have h34 : ¬ t i = 34 := by omega
  rcases hq with hq | hq
  all_goals
    go_enter Try.func29, Try.ntmps29
    go_wp2
    go_quiet (fail)
    go_wp2
    go_quiet (fail)
    go_wp2
    clear hq g0 g1 g3 hz hne h34
    go_loopg [3] (n - i) (fun g v wr => ∃ p : Nat, ∃ d : Int, g = n - p ∧ v = .int .i64 d ∧ VB w wr sb tb n i t p d)
    case atStart => exact ⟨i, 0, rfl, rfl, ⟨Nat.le_refl _, by omega, rfl, Or.inl ⟨rfl, rfl⟩, (SameBut.refl sb w).drewN _, hS.drewN _⟩⟩
    case round =>
      obtain ⟨p, d, hg, rfl, hv⟩ := hrel
      have A : Aside (gk = n - p) := hg
      clear hg
      have l1 := hv.lo
      have l2 := hv.hi
      have g0 := hv.sc.c0
      have g1 := hv.sc.c1
      have g2 := hv.sc.fz
      have l3 : 0 ≤ d ∧ d ≤ p := by rcases hv.dep with ⟨_, h⟩ | ⟨_, h1, h2⟩ <;> omega
      by_cases hp : p < n
      · have hz : (p : Int) < (n : Int) := by omega
        have hd : decide (p < n) = true := by simp; omega
        have g3 := hv.sc.ch hp
        by_cases c34 : t p = 34
        · have hd1 : p ≠ i ∧ 1 ≤ d := by
            rcases hv.dep with ⟨h, _⟩ | ⟨_, h1, _⟩
            · subst h; have := HQ.out; omega
            · omega
          have hq := vmL_quote_in t n p d hp c34 (by omega)
          rw [hv.eq] at hq
          have HV : Hid (vmL t n (n - i) i 0 false false = if (strR t n p).1 = true then vmL t n (n - (strR t n p).2) (strR t n p).2 d false false else (false, (strR t n p).2)) := hq
          have hsb := strR_bd t n p hp
          have H34 : Hid (t p = 34) := c34
          clear hq
          cases hs1 : (strR t n p).1 with
          | true =>
            have hb : p + 1 < (strR t n p).2 := hsb.2 hs1
            have HS1 : Hid ((strR t n p).1 = true) := hs1
            go_wp2
            go_quiet (fail)
            go_wp2
            go_quiet (fail)
            go_wp2_with (go_at_call 39; refine (str_any sb tb n p t _ hn ht hp H34.out (by exact hv.sc.drewN _)).mono ?_; rintro e w' ⟨rfl, hs, hS'⟩)
            go_roundg (n - (strR t n p).2)
            case measure => have := A.out; omega
            case rel =>
              refine ⟨_, d, rfl, rfl, ⟨by omega, hsb.1, ?_, Or.inr ⟨by omega, by omega, by omega⟩, (hv.same.drewN _).trans hs, hS'⟩⟩
              rw [HV.out, if_pos HS1.out]
          | false =>
            have HS1 : Hid ((strR t n p).1 = false) := hs1
            go_wp2
            go_quiet (fail)
            go_wp2
            go_quiet (fail)
            go_wp2_with (go_at_call 39; refine (str_any sb tb n p t _ hn ht hp H34.out (by exact hv.sc.drewN _)).mono ?_; rintro e w' ⟨rfl, hs, hS'⟩)
            go_ret
            rw [HV.out, if_neg (by rw [HS1.out]; decide)]
            exact ⟨rfl, (hv.same.drewN _).trans hs, hS'⟩
        · by_cases cO : t p = 123 ∨ t p = 91
          · have hq := vmL_open t n p d hp cO
            rw [hv.eq] at hq
            have HV : Hid (vmL t n (n - i) i 0 false false = vmL t n (n - (p + 1)) (p + 1) (d + 1) false false) := hq
            clear hq
            have hdz : (d + 1 == 0) = false := beq_eq_false_iff_ne.2 (by omega)
            rcases cO with cO | cO
            all_goals
              go_wp2
              go_quiet (fail)
              go_wp2
              go_quiet (fail)
              go_wp2
              go_roundg (n - (p + 1))
              case measure => have := A.out; omega
              case rel => exact ⟨p + 1, d + 1, rfl, rfl, ⟨by omega, by omega, HV.out.symm, Or.inr ⟨by omega, by omega, by omega⟩, (hv.same.drewN _).setCell 1 _, (hv.sc.drewN _).set (p + 1)⟩⟩
          · have hd1 : p ≠ i ∧ 1 ≤ d := by
              rcases hv.dep with ⟨h, _⟩ | ⟨_, h1, _⟩
              · subst h; have := HQ.out; omega
              · omega
            by_cases cC : t p = 125 ∨ t p = 93
            · have hq := vmL_close t n p d hp cC
              rw [hv.eq] at hq
              have hO1 : ¬ t p = 123 := by omega
              have hO2 : ¬ t p = 91 := by omega
              clear cO
              by_cases c1 : d = 1
              · rw [if_pos c1] at hq
                have HV : Hid (vmL t n (n - i) i 0 false false = (true, p + 1)) := hq
                clear hq
                have hdz : (d - 1 == 0) = true := beq_iff_eq.2 (by omega)
                have H1 : Hid (d = 1) := c1
                clear c1
                rcases cC with cC | cC
                all_goals
                  go_wp2
                  go_quiet (fail)
                  go_wp2
                  go_quiet (fail)
                  go_wp2
                  go_ret
                  rw [HV.out]
                  exact ⟨rfl, (hv.same.drewN _).setCell 1 _, (hv.sc.drewN _).set (p + 1)⟩
              · rw [if_neg c1] at hq
                have HV : Hid (vmL t n (n - i) i 0 false false = vmL t n (n - (p + 1)) (p + 1) (d - 1) false false) := hq
                clear hq
                have hdz : (d - 1 == 0) = false := beq_eq_false_iff_ne.2 (by omega)
                rcases cC with cC | cC
                all_goals
                  go_wp2
                  go_quiet (fail)
                  go_wp2
                  go_quiet (fail)
                  go_wp2
                  go_roundg (n - (p + 1))
                  case measure => have := A.out; omega
                  case rel => exact ⟨p + 1, d - 1, rfl, rfl, ⟨by omega, by omega, HV.out.symm, Or.inr ⟨by omega, by omega, by omega⟩, (hv.same.drewN _).setCell 1 _, (hv.sc.drewN _).set (p + 1)⟩⟩
            · have hq := vmL_else t n p d hp c34 cO cC
              rw [hv.eq] at hq
              have HV : Hid (vmL t n (n - i) i 0 false false = vmL t n (n - (p + 1)) (p + 1) d false false) := hq
              clear hq
              have hO1 : ¬ t p = 123 := by omega
              have hO2 : ¬ t p = 91 := by omega
              have hO3 : ¬ t p = 125 := by omega
              have hO4 : ¬ t p = 93 := by omega
              have hdz : (d == 0) = false := beq_eq_false_iff_ne.2 (by omega)
              clear cO cC
              go_wp2
              go_quiet (fail)
              go_wp2
              go_quiet (fail)
              go_wp2
              go_roundg (n - (p + 1))
              case measure => have := A.out; omega
              case rel => exact ⟨p + 1, d, rfl, rfl, ⟨by omega, by omega, HV.out.symm, Or.inr ⟨by omega, by omega, by omega⟩, (hv.same.drewN _).setCell 1 _, (hv.sc.drewN _).set (p + 1)⟩⟩
      · have hd : decide (p < n) = false := by simp; omega
        obtain rfl : p = n := by omega
        have hq := hv.eq
        rw [Nat.sub_self] at hq
        have HV : Hid (vmL t p 0 p d false false = vmL t p (p - i) i 0 false false) := hq
        clear hq
        go_wp2
        go_quiet (fail)
        go_wp2
        go_ret
        rw [← HV.out]
        exact ⟨rfl, hv.same.drewN _, hv.sc.drewN _⟩

set_option maxHeartbeats 1000000 in
set_option maxRecDepth 100000 in
theorem value_atom (sb tb n i : Nat) (t : Nat → Int) (w : World) (hn : n ≤ 1048576) (ht : ∀ k, 0 ≤ t k ∧ t k ≤ 255) (hi : i < n) (h34 : ¬ t i = 34) (h123 : ¬ t i = 123) (h91 : ¬ t i = 91) (hS : Sc w sb tb n t i) :
    Calls Try.prog 29 #[.pointer (some ⟨sb, 0, none⟩)] w fun e w' => e = .returned (.bool (decide (i < aEnd t (n - i) i))) ∧ SameBut sb w w' ∧ Sc w' sb tb n t (aEnd t (n - i) i) := by
  have g0 := hS.c0
  have g1 := hS.c1
  have g3 := hS.ch hi
  have hz : (i : Int) < (n : Int) := by omega
  have hne : ((i : Int) == (n : Int)) = false := beq_eq_false_iff_ne.2 (by omega)
  go_enter Try.func29, Try.ntmps29
  go_wp2
  go_quiet (fail)
  go_wp2
  go_quiet (fail)
  go_wp2
  clear h34 h123 h91 g0 g1 g3 hz hne
  go_loopg [80] (n - i) (fun g _ wr => ∃ p : Nat, g = n - p ∧ i ≤ p ∧ p ≤ n ∧ aEnd t (n - p) p = aEnd t (n - i) i ∧ SameBut sb w wr ∧ Sc wr sb tb n t p)
  case atStart => exact ⟨i, rfl, Nat.le_refl _, by omega, rfl, (SameBut.refl sb w).drewN _, hS.drewN _⟩
  case round =>
    obtain ⟨p, hg, l1, l2, he, hsm, hsc⟩ := hrel
    have A : Aside (gk = n - p) := hg
    have E : Aside (aEnd t (n - p) p = aEnd t (n - i) i) := he
    clear hg he
    have g0 := hsc.c0
    have g1 := hsc.c1
    have g2 := hsc.fz
    have stop : stopB (t p) = true → aEnd t (n - i) i = p := fun h => by
      rw [← E.out]
      cases hf : n - p with
      | zero => rfl
      | succ f => simp [aEnd, h]
    have ST : Hid (stopB (t p) = true → aEnd t (n - i) i = p) := stop
    clear stop
    by_cases hp : p < n
    · have hz : (p : Int) < (n : Int) := by omega
      have hd : decide (p < n) = true := by simp; omega
      have g3 := hsc.ch hp
      have b0 := (ht p).1
      have b1 := (ht p).2
      cases hsp : isSp (t p) with
      | true =>
        have H1 : Hid (aEnd t (n - i) i = p) := ST.out (by simp [stopB, hsp])
        go_wp2
        go_quiet ((first | (go_at_call 40; exact Calls.quiet_of_same (isSpace_any _ _)) | (go_at_call 41; exact Calls.quiet_of (contains_any _ _ (ht _)))))
        go_wp2
        go_ret
        rw [H1.out]
        exact ⟨rfl, hsm.drewN _, hsc.drewN _⟩
      | false =>
        cases hin : in3 (t p) with
        | true =>
          have H1 : Hid (aEnd t (n - i) i = p) := ST.out (by simp [stopB, hsp]; simpa [in3, or_assoc] using hin)
          go_wp2
          go_quiet ((first | (go_at_call 40; exact Calls.quiet_of_same (isSpace_any _ _)) | (go_at_call 41; exact Calls.quiet_of (contains_any _ _ (ht _)))))
          go_wp2
          go_ret
          rw [H1.out]
          exact ⟨rfl, hsm.drewN _, hsc.drewN _⟩
        | false =>
          have e1 : aEnd t (n - (p + 1)) (p + 1) = aEnd t (n - i) i := by
            rw [← E.out, show n - p = (n - (p + 1)) + 1 by omega]
            have : stopB (t p) = false := by simp [stopB, hsp]; simpa [in3, and_assoc] using hin
            simp [aEnd, this]
          have E1 : Hid (aEnd t (n - (p + 1)) (p + 1) = aEnd t (n - i) i) := e1
          clear e1
          go_wp2
          go_quiet ((first | (go_at_call 40; exact Calls.quiet_of_same (isSpace_any _ _)) | (go_at_call 41; exact Calls.quiet_of (contains_any _ _ (ht _)))))
          go_wp2
          go_roundg (n - (p + 1))
          case measure => have := A.out; omega
          case rel => exact ⟨p + 1, rfl, by omega, by omega, E1.out, (hsm.drewN _).setCell 1 _, (hsc.drewN _).set (p + 1)⟩
    · have hd : decide (p < n) = false := by simp; omega
      obtain rfl : p = n := by omega
      have H1 : Hid (aEnd t (p - i) i = p) := by
        show aEnd t (p - i) i = p
        rw [← E.out, Nat.sub_self]; rfl
      go_wp2
      go_quiet (fail)
      go_wp2
      go_ret
      rw [H1.out, show decide (i < p) = true by simp; omega]
      exact ⟨rfl, hsm.drewN _, hsc.drewN _⟩

/-- '(*scanner).value' computes 'valF'. -/
theorem value_any (sb tb n i : Nat) (t : Nat → Int) (w : World) (hn : n ≤ 1048576) (ht : ∀ k, 0 ≤ t k ∧ t k ≤ 255) (hi : i ≤ n) (hS : Sc w sb tb n t i) :
    Calls Try.prog 29 #[.pointer (some ⟨sb, 0, none⟩)] w fun e w' => e = .returned (.bool (valF t n i).1) ∧ SameBut sb w w' ∧ Sc w' sb tb n t (valF t n i).2 := by
  by_cases h : i < n
  · by_cases h34 : t i = 34
    · exact value_str sb tb n i t w hn ht h h34 hS
    · by_cases hb : t i = 123 ∨ t i = 91
      · have e : valF t n i = vmL t n (n - i) i 0 false false := by
          unfold valF
          rw [if_neg (by omega), if_pos (Or.inr hb)]
        rw [e]
        exact value_br sb tb n i t w hn ht h hb hS
      · have e : valF t n i = (decide (i < aEnd t (n - i) i), aEnd t (n - i) i) := by
          unfold valF
          rw [if_neg (by omega), if_neg (by omega)]
        rw [e]
        exact value_atom sb tb n i t w hn ht h h34 (by omega) (by omega) hS
  · obtain rfl : i = n := by omega
    have e : valF t i i = (false, i) := by unfold valF; rw [if_pos (Nat.le_refl _)]
    rw [e]
    exact (value_end sb i _ w hS.at_).mono fun e w' ⟨he, hs, hr⟩ => ⟨he, hs, hS.to hs hr⟩

end Go.Proofs.Qxb6603699a
