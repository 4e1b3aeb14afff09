import Derived.Test.Qxb6603967aTab
namespace Go.Proofs.Qxb6603967a
open Go.RowKit

theorem bw_below (w : World) (s : ByteArray) : Below w.heap.size w (Lib.bytesWorld w 5 s) :=
  ⟨rfl, rfl, rfl, by rw [Lib.bytesWorld_size]; omega, fun k hk => Lib.bytesWorld_at_old w 5 s k hk⟩

theorem bw_cell (w : World) (s : ByteArray) (j : Nat) (hj : j < s.size) : (Lib.bytesWorld w 5 s).cell? ⟨w.heap.size, j, none⟩ = some (.int .u8 (bt s j)) := by
  rw [Lib.bytesWorld_cell w 5 s j hj, ← bt_eq s j hj]
  have hj' : j < s.data.toList.length := by simpa using hj
  rw [List.getD_eq_getElem?_getD, List.getElem?_eq_getElem hj']
  rfl

theorem tab_alnum {o : ByteArray} {c : Int} (h : (65 ≤ c ∧ c ≤ 90) ∨ (97 ≤ c ∧ c ≤ 122) ∨ (48 ≤ c ∧ c ≤ 57)) : tab o c = true := by
  have : alnumC c = true := by simp [alnumC, up, low, dig]; omega
  simp [tab, this]

theorem tab_other {o : ByteArray} {c : Int} (h : c < 48 ∨ (57 < c ∧ c < 65) ∨ (90 < c ∧ c < 97) ∨ 122 < c) : tab o c = among o o.size c := by
  have : alnumC c = false := by
    rw [Bool.eq_false_iff]
    simp [alnumC, up, low, dig]
    omega
  simp [tab, this]

set_option maxHeartbeats 1000000 in
set_option maxRecDepth 100000 in
theorem isCode_any (s o : ByteArray) (most : Int) (w : World) (hs : s.size ≤ 262144) :
    Calls Try.prog 10 #[.string s, .int .i64 most, .string o] w fun e w' => e = .returned (.bool (isCodeF s most o)) ∧ Below w.heap.size w w' := by
  by_cases h1 : s.size < 1
  · have hf : isCodeF s most o = false := by simp [isCodeF]; omega
    rw [hf]; clear hf
    go_enter Try.func10, Try.ntmps10
    go_wp2
    go_ret
    exact ⟨rfl, Below.refl _ _⟩
  by_cases h2 : most < (s.size : Int)
  · have hf : isCodeF s most o = false := by
      have : ¬ (s.size : Int) ≤ most := by omega
      simp [isCodeF, this]
    rw [hf]; clear hf
    go_enter Try.func10, Try.ntmps10
    go_wp2
    go_ret
    exact ⟨rfl, Below.refl _ _⟩
  have hf : isCodeF s most o = decide (∀ i, i < s.size → tab o (bt s i) = true) := by
    have e1 : 1 ≤ s.size := by omega
    have e2 : (s.size : Int) ≤ most := by omega
    simp [isCodeF, e1, e2]
  rw [hf]; clear hf
  generalize hR : decide (∀ i, i < s.size → tab o (bt s i) = true) = R
  have HR : Hid (R = decide (∀ i, i < s.size → tab o (bt s i) = true)) := hR.symm
  clear hR
  have hcv := Lib.run_convert_string_bytes (P := Try.prog) w 9 29 5 s Try.underlying9 Try.underlying29 Try.underlying5
  have hbel := bw_below w s
  have hcells := bw_cell w s
  generalize hw1 : Lib.bytesWorld w 5 s = w1 at hcv hbel hcells
  generalize hcap : grownCap w s.size 0 5 = cap at hcv
  clear hw1 hcap
  have HC : Hid (∀ j, j < s.size → w1.cell? ⟨w.heap.size, j, none⟩ = some (.int .u8 (bt s j))) := hcells
  clear hcells
  go_enter Try.func10, Try.ntmps10
  go_wp2
  clear hcv
  go_loop [22] (fun v => ∃ i : Nat, i ≤ s.size ∧ v = .int .i64 i ∧ Hid (∀ j, j < i → tab o (bt s j) = true)) (fun v => s.size - (intOf v).toNat)
  case atStart => exact ⟨0, by omega, rfl, (fun j hj => absurd hj (by omega))⟩
  case round =>
    obtain ⟨i, hi, rfl, hq⟩ := hrel
    by_cases hlt : i < s.size
    · have hcell := HC.out i hlt
      have hz : (i : Int) < (s.size : Int) := by omega
      have hb0 : 0 ≤ bt s i ∧ bt s i ≤ 255 := by rw [← bt_eq s i hlt]; have := UInt8.toNat_lt s[i]; omega
      generalize hc : bt s i = c at hcell hb0
      have HB : Hid (bt s i = c) := hc
      clear hc
      by_cases ha : (65 ≤ c ∧ c ≤ 90) ∨ (97 ≤ c ∧ c ≤ 122) ∨ (48 ≤ c ∧ c ≤ 57)
      · have HG : Hid (∀ j, j < i + 1 → tab o (bt s j) = true) := fun j hj => by
          by_cases e : j = i
          · subst e; rw [HB.out]; exact tab_alnum ha
          · exact hq.out j (by omega)
        rcases ha with ⟨c1, c2⟩ | ⟨c1, c2⟩ | ⟨c1, c2⟩
        all_goals
          go_wp2
          go_round
          case rel => exact ⟨i + 1, by omega, by go_num, HG⟩
          case measure => simp [intOf]; omega
      · have hb : c < 48 ∨ (57 < c ∧ c < 65) ∨ (90 < c ∧ c < 97) ∨ 122 < c := by omega
        clear ha
        have hI := fun w' => idxAmong o c w' hb0
        rcases Bool.eq_false_or_eq_true (among o o.size c) with y | y
        · rw [y] at hI
          have HI : Hid (∀ w' : World, Calls Try.prog 12 #[.string o, .int .u8 c] w' fun e w'' => (∃ r : Int, e = .returned (.int .i64 r) ∧ decide (0 ≤ r) = true) ∧ w'' = w') := hI
          have HG : Hid (∀ j, j < i + 1 → tab o (bt s j) = true) := fun j hj => by
            by_cases e : j = i
            · subst e; rw [HB.out, tab_other hb]; exact y
            · exact hq.out j (by omega)
          clear hI y
          rcases hb with c1 | ⟨c1, c2⟩ | ⟨c1, c2⟩ | c1
          all_goals
            go_wp2_with fail
            refine (HI.out _).mono ?_
            rintro _ w' ⟨⟨r, rfl, hr⟩, hw⟩
            subst w'
            have hr' : 0 ≤ r := of_decide_eq_true hr
            clear hr
            go_wp2
            go_round
            case rel => exact ⟨i + 1, by omega, by go_num, HG⟩
            case measure => simp [intOf]; omega
        · rw [y] at hI
          have HI : Hid (∀ w' : World, Calls Try.prog 12 #[.string o, .int .u8 c] w' fun e w'' => (∃ r : Int, e = .returned (.int .i64 r) ∧ decide (0 ≤ r) = false) ∧ w'' = w') := hI
          have HF : Hid (R = false) := HR.out.trans (decide_eq_false (fun h => by
            have := h i hlt
            rw [HB.out, tab_other hb, y] at this
            exact Bool.noConfusion this))
          clear hI y
          rcases hb with c1 | ⟨c1, c2⟩ | ⟨c1, c2⟩ | c1
          all_goals
            try have d57 : decide (c ≤ 57) = false := decide_eq_false (by omega)
            try have d90 : decide (c ≤ 90) = false := decide_eq_false (by omega)
            try have d122 : decide (c ≤ 122) = false := decide_eq_false (by omega)
            go_wp2_with fail
            refine (HI.out _).mono ?_
            rintro _ w' ⟨⟨r, rfl, hr⟩, hw⟩
            subst w'
            have hr' : ¬ 0 ≤ r := of_decide_eq_false hr
            have hr2 : (!decide (0 ≤ r)) = true := by rw [hr]; rfl
            go_wp2
            go_ret
            exact ⟨by rw [HF.out]; rfl, hbel⟩
    · have hz : ¬ (i : Int) < (s.size : Int) := by omega
      have HF : Hid (R = true) := HR.out.trans (decide_eq_true (fun j hj => hq.out j (by omega)))
      go_wp2
      go_ret
      exact ⟨by rw [HF.out]; rfl, hbel⟩

set_option maxHeartbeats 400000 in
theorem zzIsCode_any (s o : ByteArray) (most : Int) (w : World) (hs : s.size ≤ 262144) :
    Calls Try.prog 7 #[.string s, .int .i64 most, .string o] w fun e w' => e = .returned (.bool (isCodeF s most o)) ∧ Below w.heap.size w w' := by
  have hI := isCode_any s o most w hs
  generalize isCodeF s most o = R at hI ⊢
  have HI : Hid (Calls Try.prog 10 #[.string s, .int .i64 most, .string o] w fun e w' => e = .returned (.bool R) ∧ Below w.heap.size w w') := hI
  clear hI
  go_enter Try.func7, Try.ntmps7
  go_wp2_with (go_at_call 10; refine (HI.out).mono ?_; rintro e w' ⟨rfl, hb⟩)
  go_ret
  exact ⟨rfl, hb⟩
end Go.Proofs.Qxb6603967a
