import Derived.Test.Qxb6603699aStr
namespace Go.Proofs.Qxb6603699a
open Go.RowKit

theorem vmL_step (t : Nat → Int) (n j : Nat) (d : Int) (s e : Bool) (hj : j < n) : vmL t n (n - j) j d s e =
    if s = true then
      if e = true then vmL t n (n - (j + 1)) (j + 1) d true false
      else if t j = 92 then vmL t n (n - (j + 1)) (j + 1) d true true
      else if t j = 34 then if d = 0 then (true, j + 1) else vmL t n (n - (j + 1)) (j + 1) d false false
      else vmL t n (n - (j + 1)) (j + 1) d true false
    else if t j = 34 then vmL t n (n - (j + 1)) (j + 1) d true e
    else if t j = 123 ∨ t j = 91 then vmL t n (n - (j + 1)) (j + 1) (d + 1) false e
    else if t j = 125 ∨ t j = 93 then if d - 1 = 0 then (true, j + 1) else vmL t n (n - (j + 1)) (j + 1) (d - 1) false e
    else vmL t n (n - (j + 1)) (j + 1) d false e := by
  rw [show n - j = (n - (j + 1)) + 1 by omega]
  rfl

def ret2 (r : Bool × Nat) : Value := .tuple #[.bool r.1, .int .i64 (r.2 : Int)]

set_option maxHeartbeats 400000 in
theorem model_end (a : Option Addr) (n c i : Nat) (w : World) (hi : n ≤ i) :
    Calls Try.prog 10 #[.slice a n c, .int .i64 i] w fun e w' => e = .returned (ret2 (false, i)) ∧ w' = w := by
  have h : (n : Int) ≤ (i : Int) := by omega
  go_enter Try.func10, Try.ntmps10
  go_wp2
  go_ret2
  exact ⟨rfl, rfl⟩

/-- what holds at the loop's head -/
structure ML (t : Nat → Int) (n i : Nat) (j : Nat) (d : Int) (s e : Bool) : Prop where
  lo : i ≤ j
  hi : j ≤ n
  eq : vmL t n (n - j) j d s e = vmL t n (n - i) i 0 false false
  d0 : -(j : Int) ≤ d
  d1 : d ≤ j

set_option maxHeartbeats 1000000 in
set_option maxRecDepth 100000 in
theorem model_vm (tb n cp i : Nat) (t : Nat → Int) (w : World) (hn : n ≤ 1048576) (hi : i < n) (hq : t i = 34 ∨ t i = 123 ∨ t i = 91) (hT : w.rowIs tb 5 n (fun k => .int .u8 (t k))) :
    Calls Try.prog 10 #[.slice (some ⟨tb, 0, none⟩) n cp, .int .i64 i] w fun e w' => e = .returned (ret2 (vmL t n (n - i) i 0 false false)) ∧ w' = w := by
  have g3 : w.cell? ⟨tb, i, none⟩ = some (.int .u8 (t i)) := hT.cell hi
  have hz : (i : Int) < (n : Int) := by omega
  have hcell : ∀ k, k < n → w.cell? ⟨tb, k, none⟩ = some (.int .u8 (t k)) := fun k hk => hT.cell hk
  have HC : Hid (∀ k, k < n → w.cell? ⟨tb, k, none⟩ = some (.int .u8 (t k))) := hcell
  clear hcell hT
  have hlq := lastQ_le t n
  rcases hq with hq | hq | hq
  all_goals
    go_enter Try.func10, Try.ntmps10
    go_wp2
    go_loop [8, 9, 10, 11] (fun v8 v9 v10 v11 => ∃ (j : Nat) (d : Int) (s e : Bool), v8 = .int .i64 d ∧ v9 = .bool s ∧ v10 = .bool e ∧ v11 = .int .i64 j ∧ ML t n i j d s e) (fun _ _ _ v => n - (intOf v).toNat)
    case atStart => exact ⟨i, 0, false, false, rfl, rfl, rfl, rfl, ⟨Nat.le_refl _, by omega, rfl, by omega, by omega⟩⟩
    case round =>
      obtain ⟨j, d, s, e, rfl, rfl, rfl, rfl, hm⟩ := hrel
      clear g3 hz
      have l1 := hm.lo
      have l2 := hm.hi
      have l3 := hm.d0
      have l4 := hm.d1
      have E := hm.eq
      by_cases hj : j < n
      · have g3 := HC.out j hj
        have hz : (j : Int) < (n : Int) := by omega
        rw [vmL_step t n j d s e hj] at E
        cases s with
        | true =>
          cases e with
          | true =>
            have HE : Hid (vmL t n (n - (j + 1)) (j + 1) d true false = vmL t n (n - i) i 0 false false) := by unfold Hid; simpa [] using E
            clear E
            go_wp2
            go_round
            case rel => exact ⟨j + 1, d, true, false, rfl, rfl, rfl, by go_num, ⟨by omega, by omega, HE.out, by omega, by omega⟩⟩
            case measure => simp [intOf]; omega
          | false =>
            by_cases c92 : t j = 92
            · have HE : Hid (vmL t n (n - (j + 1)) (j + 1) d true true = vmL t n (n - i) i 0 false false) := by unfold Hid; simpa [c92] using E
              clear E
              go_wp2
              go_round
              case rel => exact ⟨j + 1, d, true, true, rfl, rfl, rfl, by go_num, ⟨by omega, by omega, HE.out, by omega, by omega⟩⟩
              case measure => simp [intOf]; omega
            · by_cases c34 : t j = 34
              · by_cases d0 : d = 0
                · have HE : Hid ((true, j + 1) = vmL t n (n - i) i 0 false false) := by unfold Hid; simpa [c92, c34, d0] using E
                  clear E
                  go_wp2
                  go_ret2
                  rw [← HE.out]
                  exact ⟨rfl, rfl⟩
                · have HE : Hid (vmL t n (n - (j + 1)) (j + 1) d false false = vmL t n (n - i) i 0 false false) := by unfold Hid; simpa [c92, c34, d0] using E
                  clear E
                  go_wp2
                  go_round
                  case rel => exact ⟨j + 1, d, false, false, rfl, rfl, rfl, by go_num, ⟨by omega, by omega, HE.out, by omega, by omega⟩⟩
                  case measure => simp [intOf]; omega
              · have HE : Hid (vmL t n (n - (j + 1)) (j + 1) d true false = vmL t n (n - i) i 0 false false) := by unfold Hid; simpa [c92, c34] using E
                clear E
                go_wp2
                go_round
                case rel => exact ⟨j + 1, d, true, false, rfl, rfl, rfl, by go_num, ⟨by omega, by omega, HE.out, by omega, by omega⟩⟩
                case measure => simp [intOf]; omega
        | false =>
          by_cases c34 : t j = 34
          · have HE : Hid (vmL t n (n - (j + 1)) (j + 1) d true e = vmL t n (n - i) i 0 false false) := by unfold Hid; simpa [c34] using E
            clear E
            go_wp2
            go_round
            case rel => exact ⟨j + 1, d, true, e, rfl, rfl, rfl, by go_num, ⟨by omega, by omega, HE.out, by omega, by omega⟩⟩
            case measure => simp [intOf]; omega
          · by_cases cO : t j = 123 ∨ t j = 91
            · have HE : Hid (vmL t n (n - (j + 1)) (j + 1) (d + 1) false e = vmL t n (n - i) i 0 false false) := by unfold Hid; simpa [c34, cO] using E
              clear E
              rcases cO with cO | cO
              all_goals
                go_wp2
                go_round
                case rel => exact ⟨j + 1, (d + 1), false, e, rfl, rfl, rfl, by go_num, ⟨by omega, by omega, HE.out, by omega, by omega⟩⟩
                case measure => simp [intOf]; omega
            · have hO1 : ¬ t j = 123 := by omega
              have hO2 : ¬ t j = 91 := by omega
              by_cases cC : t j = 125 ∨ t j = 93
              · by_cases d1 : d - 1 = 0
                · have HE : Hid ((true, j + 1) = vmL t n (n - i) i 0 false false) := by unfold Hid; simpa [c34, hO1, hO2, cC, d1] using E
                  clear E cO
                  have hdz : (d - 1 == 0) = true := beq_iff_eq.2 d1
                  have H1 : Hid (d - 1 = 0) := d1
                  clear d1
                  rcases cC with cC | cC
                  all_goals
                    go_wp2
                    go_ret2
                    rw [← HE.out]
                    exact ⟨rfl, rfl⟩
                · have HE : Hid (vmL t n (n - (j + 1)) (j + 1) (d - 1) false e = vmL t n (n - i) i 0 false false) := by unfold Hid; simpa [c34, hO1, hO2, cC, d1] using E
                  clear E cO
                  have hdz : (d - 1 == 0) = false := beq_eq_false_iff_ne.2 d1
                  rcases cC with cC | cC
                  all_goals
                    go_wp2
                    go_round
                    case rel => exact ⟨j + 1, (d - 1), false, e, rfl, rfl, rfl, by go_num, ⟨by omega, by omega, HE.out, by omega, by omega⟩⟩
                    case measure => simp [intOf]; omega
              · have hO3 : ¬ t j = 125 := by omega
                have hO4 : ¬ t j = 93 := by omega
                have HE : Hid (vmL t n (n - (j + 1)) (j + 1) d false e = vmL t n (n - i) i 0 false false) := by unfold Hid; simpa [c34, hO1, hO2, hO3, hO4] using E
                have hB1 : (t j == 123) = false := beq_eq_false_iff_ne.2 hO1
                have hB2 : (t j == 91) = false := beq_eq_false_iff_ne.2 hO2
                have hB3 : (t j == 125) = false := beq_eq_false_iff_ne.2 hO3
                have hB4 : (t j == 93) = false := beq_eq_false_iff_ne.2 hO4
                clear E cO cC hO1 hO2 hO3 hO4
                go_wp2
                go_round
                case rel => exact ⟨j + 1, d, false, e, rfl, rfl, rfl, by go_num, ⟨by omega, by omega, HE.out, by omega, by omega⟩⟩
                case measure => simp [intOf]; omega
      · obtain rfl : j = n := by omega
        rw [Nat.sub_self] at E
        have HE : Hid (vmL t j 0 j d s e = vmL t j (j - i) i 0 false false) := E
        clear E
        cases s with
        | true =>
          go_wp2_with (go_at_call 30; refine (lastQuote_any tb j cp t _ hn HC.out).mono ?_; rintro e w' ⟨rfl, rfl⟩)
          go_ret2
          rw [← HE.out]
          exact ⟨rfl, rfl⟩
        | false =>
          go_wp2
          go_ret2
          rw [← HE.out]
          exact ⟨rfl, rfl⟩

set_option maxHeartbeats 1000000 in
set_option maxRecDepth 100000 in
theorem model_atom (tb n cp i : Nat) (t : Nat → Int) (w : World) (hn : n ≤ 1048576) (hi : i < n) (h34 : ¬ t i = 34) (h123 : ¬ t i = 123) (h91 : ¬ t i = 91) (hT : w.rowIs tb 5 n (fun k => .int .u8 (t k))) :
    Calls Try.prog 10 #[.slice (some ⟨tb, 0, none⟩) n cp, .int .i64 i] w fun e w' => e = .returned (ret2 (decide (i < aEnd t (n - i) i), aEnd t (n - i) i)) ∧ w' = w := by
  have g3 : w.cell? ⟨tb, i, none⟩ = some (.int .u8 (t i)) := hT.cell hi
  have hz : (i : Int) < (n : Int) := by omega
  have hb1 : (t i == 34) = false := beq_eq_false_iff_ne.2 h34
  have hb2 : (t i == 123) = false := beq_eq_false_iff_ne.2 h123
  have hb3 : (t i == 91) = false := beq_eq_false_iff_ne.2 h91
  have hni : decide (n ≤ i) = false := by simp; omega
  clear h34 h123 h91
  go_enter Try.func10, Try.ntmps10
  go_wp2
  clear hb1 hb2 hb3 g3 hz
  go_loopg [13] (n - i) (fun g v wr => ∃ j : Nat, g = n - j ∧ v = .int .i64 j ∧ i ≤ j ∧ j ≤ n ∧ aEnd t (n - j) j = aEnd t (n - i) i ∧ wr = w)
  case atStart => exact ⟨i, rfl, rfl, Nat.le_refl _, by omega, rfl, rfl⟩
  case round =>
    obtain ⟨p, hg, rfl, l1, l2, he, rfl⟩ := hrel
    have A : Aside (gk = n - p) := hg
    clear hg
    have E : Aside (aEnd t (n - p) p = aEnd t (n - i) i) := he
    clear he
    have stop : stopB (t p) = true → aEnd t (n - i) i = p := fun h => by
      rw [← E.out]
      cases hf : n - p with
      | zero => rfl
      | succ f => simp [aEnd, h]
    have ST : Hid (stopB (t p) = true → aEnd t (n - i) i = p) := stop
    clear stop
    by_cases hp : p < n
    · have hz : (p : Int) < (n : Int) := by omega
      have hd : decide (p < n) = true := by simp; omega
      have g3 := hT.cell hp
      cases hsp : isSp (t p) with
      | true =>
        have H1 : Hid (aEnd t (n - i) i = p) := ST.out (by simp [stopB, hsp])
        go_wp2_with (go_at_call 31; refine (rbIsSpace_any _ _).mono ?_; rintro e w' ⟨rfl, rfl⟩)
        go_ret2
        rw [H1.out]
        exact ⟨rfl, rfl⟩
      | false =>
        by_cases c1 : t p = 44
        · have H1 : Hid (aEnd t (n - i) i = p) := ST.out (by simp [stopB, c1])
          go_wp2_with (go_at_call 31; refine (rbIsSpace_any _ _).mono ?_; rintro e w' ⟨rfl, rfl⟩)
          go_ret2
          rw [H1.out]
          exact ⟨rfl, rfl⟩
        · by_cases c2 : t p = 93
          · have H1 : Hid (aEnd t (n - i) i = p) := ST.out (by simp [stopB, c2])
            go_wp2_with (go_at_call 31; refine (rbIsSpace_any _ _).mono ?_; rintro e w' ⟨rfl, rfl⟩)
            go_ret2
            rw [H1.out]
            exact ⟨rfl, rfl⟩
          · by_cases c3 : t p = 125
            · have H1 : Hid (aEnd t (n - i) i = p) := ST.out (by simp [stopB, c3])
              go_wp2_with (go_at_call 31; refine (rbIsSpace_any _ _).mono ?_; rintro e w' ⟨rfl, rfl⟩)
              go_ret2
              rw [H1.out]
              exact ⟨rfl, rfl⟩
            · have e1 : aEnd t (n - (p + 1)) (p + 1) = aEnd t (n - i) i := by
                rw [← E.out, show n - p = (n - (p + 1)) + 1 by omega]
                have : stopB (t p) = false := by simp [stopB, hsp, c1, c2, c3]
                simp [aEnd, this]
              have E1 : Hid (aEnd t (n - (p + 1)) (p + 1) = aEnd t (n - i) i) := e1
              clear e1
              have hb1 : (t p != 44) = true := by simp [c1]
              have hb2 : (t p != 93) = true := by simp [c2]
              have hb3 : (t p != 125) = true := by simp [c3]
              clear c1 c2 c3
              go_wp2_with (go_at_call 31; refine (rbIsSpace_any _ _).mono ?_; rintro e w' ⟨rfl, rfl⟩)
              go_roundg (n - (p + 1))
              case measure => have := A.out; omega
              case rel => exact ⟨p + 1, rfl, by go_num, by omega, by omega, E1.out, rfl⟩
    · have hd : decide (p < n) = false := by simp; omega
      obtain rfl : p = n := by omega
      have H1 : Hid (aEnd t (p - i) i = p) := by
        show aEnd t (p - i) i = p
        rw [← E.out, Nat.sub_self]; rfl
      go_wp2
      go_ret2
      rw [H1.out, show decide (i < p) = true by simp; omega]
      exact ⟨rfl, rfl⟩

/-- 'zzRBValueModel' computes 'valF'. -/
theorem model_any (tb n cp i : Nat) (t : Nat → Int) (w : World) (hn : n ≤ 1048576) (hT : w.rowIs tb 5 n (fun k => .int .u8 (t k))) :
    Calls Try.prog 10 #[.slice (some ⟨tb, 0, none⟩) n cp, .int .i64 i] w fun e w' => e = .returned (ret2 (valF t n i)) ∧ w' = w := by
  by_cases h : i < n
  · by_cases hb : t i = 34 ∨ t i = 123 ∨ t i = 91
    · have e : valF t n i = vmL t n (n - i) i 0 false false := by
        unfold valF
        rw [if_neg (by omega), if_pos hb]
      rw [e]
      exact model_vm tb n cp i t w hn h hb hT
    · have e : valF t n i = (decide (i < aEnd t (n - i) i), aEnd t (n - i) i) := by
        unfold valF
        rw [if_neg (by omega), if_neg hb]
      rw [e]
      exact model_atom tb n cp i t w hn h (by omega) (by omega) (by omega) hT
  · have e : valF t n i = (false, i) := by unfold valF; rw [if_pos (by omega)]
    rw [e]
    exact model_end _ n cp i w (by omega)

end Go.Proofs.Qxb6603699a
