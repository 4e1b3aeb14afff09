import Derived.Test.Qxb6603719aAdv
namespace Go.Proofs.Qxb6603719a
open Go.RowKit

theorem results_tmp5 {fn : Func} {t u v x y : Tmp} (h : fn.results = #[.tmp t, .tmp u, .tmp v, .tmp x, .tmp y]) (tmps : Array Value) (P : Program) (w : World) :
    (results fn tmps).run P w = .ok (.tuple #[tmps.getD t undef, tmps.getD u undef, tmps.getD v undef, tmps.getD x undef, tmps.getD y undef]) w := by
  simp [results, h]

theorem box_row (w : World) (t k : ByteArray) (st en v : Int) : Bx (w.alloc (.cells #[.string t, .string k, .int .i64 st, .int .i64 en, .int .i64 v] 42)) w.heap.size t k st en v :=
  World.rowIs_alloc w #[.string t, .string k, .int .i64 st, .int .i64 en, .int .i64 v] 42 (bx t k st en v) (fun j hj => by
    match j, hj with
    | 0, _ => rfl
    | 1, _ => rfl
    | 2, _ => rfl
    | 3, _ => rfl
    | 4, _ => rfl)

set_option maxHeartbeats 400000 in
set_option maxRecDepth 100000 in
theorem zzAdvance_any (s k : ByteArray) (st v : Int) (e : Nat) (w : World) (hn : s.size ≤ 65536) (he : e ≤ s.size) :
    Calls Try.prog 14 #[.string s, .string k, .int .i64 st, .int .i64 e, .int .i64 v] w fun ex w' => (∃ st' en' : Nat, ex = .returned (.tuple #[.string s, .string (s.extract st' en'), .int .i64 st', .int .i64 en', .int .i64 v]) ∧ Adv s e st' en') ∧ Grown w w' := by
  have hb := box_row w s k st e v
  go_enter Try.func14, Try.ntmps14
  go_wp2_with (go_at_call 18; refine (advance_any s k st v e w.heap.size _ hn he (by exact hb)).mono ?_; rintro _ w' ⟨rfl, st', en', hA, hB', hG⟩)
  have hgr := hG w (Nat.le_refl _) ((Grown.refl w).alloc _ _)
  have d0 : w'.cell? ⟨w.heap.size, 0, none⟩ = some (.string s) := hB'.cell (i := 0) (by omega)
  have d1 : w'.cell? ⟨w.heap.size, 1, none⟩ = some (.string (s.extract st' en')) := hB'.cell (i := 1) (by omega)
  have d2 : w'.cell? ⟨w.heap.size, 2, none⟩ = some (.int .i64 st') := hB'.cell (i := 2) (by omega)
  have d3 : w'.cell? ⟨w.heap.size, 3, none⟩ = some (.int .i64 en') := hB'.cell (i := 3) (by omega)
  have d4 : w'.cell? ⟨w.heap.size, 4, none⟩ = some (.int .i64 v) := hB'.cell (i := 4) (by omega)
  go_quiet (fail)
  go_wp2
  refine bodyPost_ret (results_tmp5 rfl _ _ _) rfl ?_
  exact ⟨⟨st', en', rfl, hA⟩, hgr⟩

set_option maxHeartbeats 400000 in
theorem zzBytes_yes (a0 a1 : ByteArray) (a2 a3 a4 : Int) (w : World) (h0 : a0.size ≤ 65536) (h1 : a1.size ≤ 65536) :
    Calls Try.prog 13 #[.string a0, .string a1, .int .i64 a2, .int .i64 a3, .int .i64 a4] w fun e w' => e = .returned (.bool true) ∧ w' = w := by
  go_enter Try.func13, Try.ntmps13
  go_wp2
  go_ret
  exact ⟨rfl, rfl⟩

set_option maxHeartbeats 400000 in
theorem zzBytes_any (a0 a1 : ByteArray) (a2 a3 a4 : Int) (w : World) (h0 : a0.size ≤ maxLen) (h1 : a1.size ≤ maxLen) :
    Calls Try.prog 13 #[.string a0, .string a1, .int .i64 a2, .int .i64 a3, .int .i64 a4] w fun e w' => (∃ b, e = .returned (.bool b)) ∧ w' = w := by
  unfold maxLen at h0 h1
  by_cases e0 : a0.size ≤ 1048576
  · by_cases e1 : a1.size ≤ 1048576
    · by_cases e2 : a0.size + a1.size ≤ 1048576
      all_goals
        go_enter Try.func13, Try.ntmps13
        go_wp2
        go_ret
        exact ⟨⟨_, rfl⟩, rfl⟩
    · go_enter Try.func13, Try.ntmps13
      go_wp2
      go_ret
      exact ⟨⟨_, rfl⟩, rfl⟩
  · go_enter Try.func13, Try.ntmps13
    go_wp2
    go_ret
    exact ⟨⟨_, rfl⟩, rfl⟩

set_option maxHeartbeats 1000000 in
set_option maxRecDepth 100000 in
theorem walk_in (s k : ByteArray) (st v : Int) (e : Nat) (w : World) (hn : s.size ≤ 65536) (hk : k.size ≤ 65536) (he : e ≤ s.size) :
    Calls Try.prog 5 #[.string s, .string k, .int .i64 st, .int .i64 e, .int .i64 v] w fun ex w' => ex = .returned (.bool true) ∧ Grown w w' := by
  have HZ : Hid (∀ w', Calls Try.prog 14 #[.string s, .string k, .int .i64 st, .int .i64 e, .int .i64 v] w' fun ex w'' => (∃ st' en' : Nat, ex = .returned (.tuple #[.string s, .string (s.extract st' en'), .int .i64 st', .int .i64 en', .int .i64 v]) ∧ Adv s e st' en') ∧ Grown w' w'') := fun w' => zzAdvance_any s k st v e w' hn he
  have hY := zzBytes_yes s k st e v w hn hk
  go_enter Try.func5, Try.ntmps5
  go_wp2_with fail
  refine hY.mono ?_
  rintro _ w' ⟨rfl, hw⟩
  subst w'
  go_wp2_with fail
  refine (HZ.out _).mono ?_
  rintro _ w1 ⟨⟨p, q, rfl, hA⟩, hg⟩
  obtain ⟨l1, l2, l3, hsp, hend, hne, htk, hlong⟩ := hA
  have HSP : Hid (∀ i, e ≤ i → i < p → bt s i = 32) := hsp
  have HEND : Hid (p = s.size → q = s.size) := hend
  have HNE : Hid (p < s.size → ¬ bt s p = 32) := hne
  have HTK : Hid (p < s.size → tok (s.extract p q) = true) := htk
  have HLONG : Hid (p < s.size → q < s.size → tok (s.extract p (q + 1)) = false) := hlong
  clear hsp hend hne htk hlong hY HZ
  go_wp2
  go_loop [16] (fun i => ∃ j : Nat, e ≤ j ∧ j ≤ p ∧ i = .int .i64 j) (fun i => p - (intOf i).toNat)
  case atStart => exact ⟨e, Nat.le_refl _, l1, rfl⟩
  case round =>
    obtain ⟨j, hj0, hj, rfl⟩ := hrel
    by_cases hlt : j < p
    · have hjs : j < s.size := by omega
      have hb : ((s[j].toNat : Int) == 32) = true := by
        rw [bt_eq s j hjs, HSP.out j hj0 hlt]; rfl
      have hb2 : ((s[j].toNat : Int) != 32) = false := by simpa [bne] using hb
      go_wp2
      go_round
      case rel => exact ⟨j + 1, by omega, by omega, by go_num⟩
      case measure => simp [intOf]; omega
    · by_cases hpe : p = s.size
      · have hqe := HEND.out hpe
        subst hpe
        subst hqe
        go_wp2
        go_ret
        exact ⟨rfl, hg⟩
      · have hps : p < s.size := by omega
        have hb : ((s[p].toNat : Int) == 32) = false := by
          rw [bt_eq s p hps, beq_eq_false_iff_ne]
          exact HNE.out hps
        have hse := size_ext s p q l3
        have hT : ∀ w', Calls Try.prog 15 #[.string (s.extract p q)] w' fun ex w'' => ex = .returned (.bool true) ∧ w'' = w' := fun w' => by
          have := selToken_any (s.extract p q) w' (by omega)
          rw [HTK.out hps] at this
          exact this
        by_cases hql : q < s.size
        · have hse2 := size_ext s p (q + 1) hql
          have hF : ∀ w', Calls Try.prog 15 #[.string (s.extract p (q + 1))] w' fun ex w'' => ex = .returned (.bool false) ∧ w'' = w' := fun w' => by
            have := selToken_any (s.extract p (q + 1)) w' (by omega)
            rw [HLONG.out hps hql] at this
            exact this
          go_wp2_with fail
          refine (hT _).mono ?_
          rintro _ w' ⟨rfl, hw⟩
          subst w'
          go_wp2_with fail
          refine (hF _).mono ?_
          rintro _ w' ⟨rfl, hw⟩
          subst w'
          go_wp2
          go_ret
          exact ⟨rfl, hg⟩
        · go_wp2_with fail
          refine (hT _).mono ?_
          rintro _ w' ⟨rfl, hw⟩
          subst w'
          go_wp2
          go_ret
          exact ⟨rfl, hg⟩

set_option maxHeartbeats 1000000 in
set_option maxRecDepth 100000 in
theorem walk_out (a0 a1 : ByteArray) (a2 a3 a4 : Int) (w0 : a0.size ≤ maxLen) (w1 : a1.size ≤ maxLen) (w : World) (h : 65536 < a0.size ∨ 65536 < a1.size ∨ a3 < 0 ∨ (a0.size : Int) < a3) :
    Calls Try.prog 5 #[.string a0, .string a1, .int .i64 a2, .int .i64 a3, .int .i64 a4] w fun e w' => e = .returned (.bool true) ∧ w' = w := by
  have hY := zzBytes_any a0 a1 a2 a3 a4 w w0 w1
  unfold maxLen at w0 w1
  by_cases h0 : 65536 < a0.size
  · clear h
    go_enter Try.func5, Try.ntmps5
    go_wp2_with fail
    refine hY.mono ?_
    rintro _ w' ⟨⟨b, rfl⟩, hw⟩
    subst w'
    cases b <;> (go_wp2; go_ret; exact ⟨rfl, rfl⟩)
  by_cases h1 : 65536 < a1.size
  · clear h
    go_enter Try.func5, Try.ntmps5
    go_wp2_with fail
    refine hY.mono ?_
    rintro _ w' ⟨⟨b, rfl⟩, hw⟩
    subst w'
    cases b <;> (go_wp2; go_ret; exact ⟨rfl, rfl⟩)
  by_cases h2 : a3 < 0
  · clear h
    go_enter Try.func5, Try.ntmps5
    go_wp2_with fail
    refine hY.mono ?_
    rintro _ w' ⟨⟨b, rfl⟩, hw⟩
    subst w'
    cases b <;> (go_wp2; go_ret; exact ⟨rfl, rfl⟩)
  have h3 : (a0.size : Int) < a3 := by omega
  clear h
  go_enter Try.func5, Try.ntmps5
  go_wp2_with fail
  refine hY.mono ?_
  rintro _ w' ⟨⟨b, rfl⟩, hw⟩
  subst w'
  cases b <;> (go_wp2; go_ret; exact ⟨rfl, rfl⟩)

theorem walk_all (a0 a1 : ByteArray) (a2 a3 a4 : Int) (w0 : a0.size ≤ maxLen) (w1 : a1.size ≤ maxLen) (w : World) :
    Calls Try.prog 5 #[.string a0, .string a1, .int .i64 a2, .int .i64 a3, .int .i64 a4] w fun e w' => e = .returned (.bool true) ∧ Grown w w' := by
  by_cases h : 65536 < a0.size ∨ 65536 < a1.size ∨ a3 < 0 ∨ (a0.size : Int) < a3
  · refine (walk_out a0 a1 a2 a3 a4 w0 w1 w h).mono ?_
    rintro e w' ⟨rfl, rfl⟩
    exact ⟨rfl, Grown.refl _⟩
  · obtain ⟨n, rfl⟩ : ∃ n : Nat, a3 = n := ⟨a3.toNat, by omega⟩
    exact walk_in a0 a1 a2 a4 n w (by omega) (by omega) (by omega)
end Go.Proofs.Qxb6603719a
