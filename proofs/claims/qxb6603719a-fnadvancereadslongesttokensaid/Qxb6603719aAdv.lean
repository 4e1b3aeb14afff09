import Derived.Test.Qxb6603719aPlain
import Derived.Deep.OwnRows
import Derived.Deep.RegionHeld3
import Derived.BigRegion
import Derived.RowKit3
namespace Go.Proofs.Qxb6603719a
open Go.RowKit

/-- The scanner's five cells. -/
def bx (t k : ByteArray) (st en v : Int) : Nat → Value
  | 0 => .string t
  | 1 => .string k
  | 2 => .int .i64 st
  | 3 => .int .i64 en
  | _ => .int .i64 v

abbrev Bx (w : World) (sb : Nat) (t k : ByteArray) (st en v : Int) : Prop := w.rowIs sb 42 5 (bx t k st en v)

theorem Bx.set1 {w : World} {sb : Nat} {t k : ByteArray} {st en v : Int} (h : Bx w sb t k st en v) (k' : ByteArray) : Bx (w.setCell ⟨sb, 1, none⟩ (.string k')) sb t k' st en v :=
  (World.rowIs.set h 1 _).congr (fun j hj => by
    match j, hj with
    | 0, _ => rfl
    | 1, _ => rfl
    | 2, _ => rfl
    | 3, _ => rfl
    | 4, _ => rfl)
theorem Bx.set2 {w : World} {sb : Nat} {t k : ByteArray} {st en v : Int} (h : Bx w sb t k st en v) (st' : Int) : Bx (w.setCell ⟨sb, 2, none⟩ (.int .i64 st')) sb t k st' en v :=
  (World.rowIs.set h 2 _).congr (fun j hj => by
    match j, hj with
    | 0, _ => rfl
    | 1, _ => rfl
    | 2, _ => rfl
    | 3, _ => rfl
    | 4, _ => rfl)
theorem Bx.set3 {w : World} {sb : Nat} {t k : ByteArray} {st en v : Int} (h : Bx w sb t k st en v) (en' : Int) : Bx (w.setCell ⟨sb, 3, none⟩ (.int .i64 en')) sb t k st en' v :=
  (World.rowIs.set h 3 _).congr (fun j hj => by
    match j, hj with
    | 0, _ => rfl
    | 1, _ => rfl
    | 2, _ => rfl
    | 3, _ => rfl
    | 4, _ => rfl)

/-- What was there has not turned. -/
def Gr (sb : Nat) (w w' : World) : Prop := ∀ W : World, W.heap.size ≤ sb → Grown W w → Grown W w'
theorem Gr.refl (sb : Nat) (w : World) : Gr sb w w := fun _ _ h => h
theorem Gr.set {sb : Nat} {w w' : World} (h : Gr sb w w') (o : Nat) (v : Value) : Gr sb w (w'.setCell ⟨sb, o, none⟩ v) := fun W hW hg => Grown.setCell (h W hW hg) hW v
theorem Gr.drew1 {sb : Nat} {w w' : World} (h : Gr sb w w') : Gr sb w w'.drew := fun W hW hg => h W hW hg
theorem row_drew {w : World} {b : Nat} {t : TypeId} {n : Nat} {f : Nat → Value} (h : w.rowIs b t n f) : w.drew.rowIs b t n f := h
theorem Gr.drew {sb : Nat} {w w' : World} (h : Gr sb w w') (n : Nat) : Gr sb w (w'.drewN n) := fun W hW hg => h W hW hg

set_option maxHeartbeats 1000000 in
set_option maxRecDepth 100000 in
theorem advance_any (s k : ByteArray) (st v : Int) (e sb : Nat) (w : World) (hn : s.size ≤ 65536) (he : e ≤ s.size) (hB : Bx w sb s k st e v) :
    Calls Try.prog 18 #[.pointer (some ⟨sb, 0, none⟩)] w fun ex w' => ex = .returned (.tuple #[]) ∧ ∃ st' en' : Nat, Adv s e st' en' ∧ Bx w' sb s (s.extract st' en') st' en' v ∧ Gr sb w w' := by
  have g0 : w.cell? ⟨sb, 0, none⟩ = some (.string s) := hB.cell (i := 0) (by omega)
  have g2 : w.cell? ⟨sb, 2, none⟩ = some (.int .i64 st) := hB.cell (i := 2) (by omega)
  have g3 : w.cell? ⟨sb, 3, none⟩ = some (.int .i64 e) := hB.cell (i := 3) (by omega)
  have f2 := hB.frozen 2
  go_enter Try.func18, Try.ntmps18
  go_wp2
  go_loop [2] (fun i => ∃ p : Nat, e ≤ p ∧ p ≤ s.size ∧ i = .int .i64 p ∧ Hid (∀ j, e ≤ j → j < p → bt s j = 32)) (fun i => s.size - (intOf i).toNat)
  case atStart => exact ⟨e, Nat.le_refl _, he, rfl, (fun j hj hk => absurd hj (by omega))⟩
  case round =>
    obtain ⟨p, hp0, hp, rfl, hq⟩ := hrel
    by_cases hlt : p < s.size
    · have hbk := bt_eq s p hlt
      have HB : Hid ((s[p].toNat : Int) = bt s p) := hbk
      clear hbk
      rcases Bool.eq_false_or_eq_true ((s[p].toNat : Int) == 32) with g1 | g1
      · have HG : Hid (∀ j, e ≤ j → j < p + 1 → bt s j = 32) := fun j h1 h2 => by
          by_cases e : j = p
          · subst e; rw [← HB.out]; simpa using g1
          · exact hq.out j h1 (by omega)
        go_wp2
        go_round
        case rel => exact ⟨p + 1, by omega, by omega, by go_num, HG⟩
        case measure => simp [intOf]; omega
      · have hrs := size_ext s p s.size (Nat.le_refl _)
        have hr0 : bt (s.extract p s.size) 0 = bt s p := bt_ext s p s.size 0 (Nat.le_refl _) (by omega)
        have hne : (s.extract p s.size).toList.isEmpty = false := by
          rw [toList_data]
          cases h : (s.extract p s.size).data.toList with
          | nil =>
            have := size_data (s.extract p s.size)
            rw [h] at this
            simp at this
            omega
          | cons => rfl
        have hpre : ∀ (a : UInt8), (decide (2 ≤ (s.extract p s.size).size) && (bt (s.extract p s.size) 0 == (a.toNat : Int) && bt (s.extract p s.size) 1 == ((61 : UInt8).toNat : Int))) = (decide (p + 2 ≤ s.size) && (bt s p == (a.toNat : Int) && bt s (p + 1) == 61)) := by
          intro a
          rw [hrs, hr0]
          by_cases h : p + 2 ≤ s.size
          · rw [bt_ext s p s.size 1 (Nat.le_refl _) (by omega), decide_eq_true h, decide_eq_true (by omega : 2 ≤ s.size - p)]
            rfl
          · rw [decide_eq_false h, decide_eq_false (by omega : ¬ 2 ≤ s.size - p)]
            rfl
        have hA : ∀ (a : UInt8) (w' : World), Calls Try.prog 20 #[.string (s.extract p s.size), .string { data := #[a, 61] }] w' fun ex w'' => ex = .returned (.bool (decide (p + 2 ≤ s.size) && (bt s p == (a.toNat : Int) && bt s (p + 1) == 61))) ∧ w'' = w' := fun a w' => by
          rw [← hpre a]
          exact hasPrefix2 _ a 61 w' (by omega)
        have HA1 : Hid (∀ w' : World, Calls Try.prog 20 #[.string (s.extract p s.size), .string { data := #[61, 61] }] w' fun ex w'' => ex = .returned (.bool (decide (p + 2 ≤ s.size) && (bt s p == 61 && bt s (p + 1) == 61))) ∧ w'' = w') := fun w' => hA 61 w'
        have HA2 : Hid (∀ w' : World, Calls Try.prog 20 #[.string (s.extract p s.size), .string { data := #[33, 61] }] w' fun ex w'' => ex = .returned (.bool (decide (p + 2 ≤ s.size) && (bt s p == 33 && bt s (p + 1) == 61))) ∧ w'' = w') := fun w' => hA 33 w'
        have hb0 : 0 ≤ bt s p ∧ bt s p ≤ 255 := by rw [← HB.out]; have := UInt8.toNat_lt s[p]; omega
        have hx : 0 < (s.extract p s.size).size := by omega
        have hrx : (((s.extract p s.size)[0]'hx).toNat : Int) = bt s p := (bt_eq _ 0 hx).trans hr0
        have HRX : Hid ((((s.extract p s.size)[0]'hx).toNat : Int) = bt s p) := hrx
        clear hA hpre hr0 hrx
        rcases Bool.eq_false_or_eq_true (decide (p + 2 ≤ s.size) && (bt s p == 61 && bt s (p + 1) == 61)) with b1 | b1
        · rw [b1] at HA1
          simp at b1
          obtain ⟨b11, b12, b13⟩ := b1
          have HV : Hid (Adv s e p (p + 2)) := adv_two s e p hp0 b11 hq.out (Or.inl b12) b13
          clear b12 b13
          go_wp2_with fail
          have hB1 := hB.set2 (sb := sb) (p : Int)
          have hG1 := (Gr.refl sb w).set 2 (.int .i64 (p : Int))
          generalize w.setCell ⟨sb, 2, none⟩ (.int .i64 (p : Int)) = w1 at hB1 hG1 ⊢
          have d0 : w1.cell? ⟨sb, 0, none⟩ = some (.string s) := hB1.cell (i := 0) (by omega)
          have d1 : w1.cell? ⟨sb, 1, none⟩ = some (.string k) := hB1.cell (i := 1) (by omega)
          have d2 : w1.cell? ⟨sb, 2, none⟩ = some (.int .i64 (p : Int)) := hB1.cell (i := 2) (by omega)
          have d3 : w1.cell? ⟨sb, 3, none⟩ = some (.int .i64 e) := hB1.cell (i := 3) (by omega)
          have x1 := hB1.frozen 1
          have x3 := hB1.frozen 3
          refine (HA1.out _).mono ?_
          rintro _ w' ⟨rfl, hw⟩
          subst w'
          go_wp2
          go_region
          go_end0
          refine ⟨rfl, p, p + 2, HV.out, ?_, ?_⟩
          · exact row_drew ((Bx.set1 hB1 _).set3 _)
          · exact ((hG1.set 1 _).set 3 _).drew1
        rcases Bool.eq_false_or_eq_true (decide (p + 2 ≤ s.size) && (bt s p == 33 && bt s (p + 1) == 61)) with b2 | b2
        · rw [b1] at HA1
          rw [b2] at HA2
          simp at b2
          obtain ⟨b11, b12, b13⟩ := b2
          have HV : Hid (Adv s e p (p + 2)) := adv_two s e p hp0 b11 hq.out (Or.inr b12) b13
          clear b12 b13 b1
          go_wp2_with fail
          have hB1 := hB.set2 (sb := sb) (p : Int)
          have hG1 := (Gr.refl sb w).set 2 (.int .i64 (p : Int))
          generalize w.setCell ⟨sb, 2, none⟩ (.int .i64 (p : Int)) = w1 at hB1 hG1 ⊢
          have d0 : w1.cell? ⟨sb, 0, none⟩ = some (.string s) := hB1.cell (i := 0) (by omega)
          have d1 : w1.cell? ⟨sb, 1, none⟩ = some (.string k) := hB1.cell (i := 1) (by omega)
          have d2 : w1.cell? ⟨sb, 2, none⟩ = some (.int .i64 (p : Int)) := hB1.cell (i := 2) (by omega)
          have d3 : w1.cell? ⟨sb, 3, none⟩ = some (.int .i64 e) := hB1.cell (i := 3) (by omega)
          have x1 := hB1.frozen 1
          have x3 := hB1.frozen 3
          refine (HA1.out _).mono ?_
          rintro _ w' ⟨rfl, hw⟩
          subst w'
          go_wp2_with fail
          refine (HA2.out _).mono ?_
          rintro _ w' ⟨rfl, hw⟩
          subst w'
          go_wp2
          go_region
          go_end0
          refine ⟨rfl, p, p + 2, HV.out, ?_, ?_⟩
          · exact row_drew ((Bx.set1 hB1 _).set3 _)
          · exact ((hG1.set 1 _).set 3 _).drew1
        rw [b1] at HA1
        rw [b2] at HA2
        have hnn : ((bt s p == 61 || bt s p == 33) && bt s (p + 1) == 61) = false := by
          rw [Bool.eq_false_iff]
          intro h
          have h2 : p + 2 ≤ s.size := by
            by_cases h2 : p + 2 ≤ s.size
            · exact h2
            · have : bt s (p + 1) = 0 := by simp [bt]; omega
              rw [this] at h
              simp at h
          simp [h2] at b1 b2
          simp at h
          omega
        clear b1 b2
        rcases Bool.eq_false_or_eq_true (isPunct (bt s p)) with b3 | b3
        · have HV : Hid (Adv s e p (p + 1)) := adv_one s e p hp0 hlt hq.out b3 hnn
          have HP : Hid (∀ w' : World, Calls Try.prog 21 #[.string { data := #[61, 33, 44, 40, 41] }, .int .u8 (((s.extract p s.size)[0]'hx).toNat : Int)] w' fun ex w'' => (∃ r : Int, ex = .returned (.int .i64 r) ∧ decide (0 ≤ r) = true ∧ decide (r < 0) = false) ∧ w'' = w') := fun w' => by
            rw [HRX.out]
            have := idxPunct (bt s p) w' hb0
            rw [b3] at this
            exact this
          clear b3 hnn hb0
          go_wp2_with fail
          have hB1 := hB.set2 (sb := sb) (p : Int)
          have hG1 := (Gr.refl sb w).set 2 (.int .i64 (p : Int))
          generalize w.setCell ⟨sb, 2, none⟩ (.int .i64 (p : Int)) = w1 at hB1 hG1 ⊢
          have d0 : w1.cell? ⟨sb, 0, none⟩ = some (.string s) := hB1.cell (i := 0) (by omega)
          have d1 : w1.cell? ⟨sb, 1, none⟩ = some (.string k) := hB1.cell (i := 1) (by omega)
          have d2 : w1.cell? ⟨sb, 2, none⟩ = some (.int .i64 (p : Int)) := hB1.cell (i := 2) (by omega)
          have d3 : w1.cell? ⟨sb, 3, none⟩ = some (.int .i64 e) := hB1.cell (i := 3) (by omega)
          have x1 := hB1.frozen 1
          have x3 := hB1.frozen 3
          refine (HA1.out _).mono ?_
          rintro _ w' ⟨rfl, hw⟩
          subst w'
          go_wp2_with fail
          refine (HA2.out _).mono ?_
          rintro _ w' ⟨rfl, hw⟩
          subst w'
          go_wp2_with fail
          refine (HP.out _).mono ?_
          rintro _ w' ⟨⟨r, rfl, hr1, hr2⟩, hw⟩
          subst w'
          have hr3 : 0 ≤ r := of_decide_eq_true hr1
          clear hr1 hr2
          go_wp2
          go_region
          go_end0
          refine ⟨rfl, p, p + 1, HV.out, ?_, ?_⟩
          · exact row_drew ((Bx.set1 hB1 _).set3 _)
          · exact ((hG1.set 1 _).set 3 _).drew1
        · have hok : okc (bt s p) = true := by
            rw [okc, ← HB.out, g1, HB.out, b3]; rfl
          have HOK : Hid (okc (bt s p) = true) := hok
          have HP : Hid (∀ w' : World, Calls Try.prog 21 #[.string { data := #[61, 33, 44, 40, 41] }, .int .u8 (((s.extract p s.size)[0]'hx).toNat : Int)] w' fun ex w'' => (∃ r : Int, ex = .returned (.int .i64 r) ∧ decide (0 ≤ r) = false ∧ decide (r < 0) = true) ∧ w'' = w') := fun w' => by
            rw [HRX.out]
            have := idxPunct (bt s p) w' hb0
            rw [b3] at this
            exact this
          clear b3 hnn hb0 hok
          go_wp2_with fail
          have hB1 := hB.set2 (sb := sb) (p : Int)
          have hG1 := (Gr.refl sb w).set 2 (.int .i64 (p : Int))
          generalize w.setCell ⟨sb, 2, none⟩ (.int .i64 (p : Int)) = w1 at hB1 hG1 ⊢
          have d0 : w1.cell? ⟨sb, 0, none⟩ = some (.string s) := hB1.cell (i := 0) (by omega)
          have d1 : w1.cell? ⟨sb, 1, none⟩ = some (.string k) := hB1.cell (i := 1) (by omega)
          have d2 : w1.cell? ⟨sb, 2, none⟩ = some (.int .i64 (p : Int)) := hB1.cell (i := 2) (by omega)
          have d3 : w1.cell? ⟨sb, 3, none⟩ = some (.int .i64 e) := hB1.cell (i := 3) (by omega)
          have x1 := hB1.frozen 1
          have x3 := hB1.frozen 3
          refine (HA1.out _).mono ?_
          rintro _ w' ⟨rfl, hw⟩
          subst w'
          go_wp2_with fail
          refine (HA2.out _).mono ?_
          rintro _ w' ⟨rfl, hw⟩
          subst w'
          go_wp2_with fail
          refine (HP.out _).mono ?_
          rintro _ w' ⟨⟨r, rfl, hr1, hr2⟩, hw⟩
          subst w'
          have hr3 : ¬ 0 ≤ r := of_decide_eq_false hr1
          clear hr1 hr2
          go_wp2
          go_loop [2] (fun i => ∃ q : Nat, p ≤ q ∧ q ≤ s.size ∧ i = .int .i64 q ∧ Hid (∀ j, p ≤ j → j < q → okc (bt s j) = true)) (fun i => s.size - (intOf i).toNat)
          case atStart => exact ⟨p, Nat.le_refl _, hp, rfl, (fun j hj hk => absurd hj (by omega))⟩
          case round =>
            obtain ⟨q, hq0, hq1, rfl, hqq⟩ := hrel
            by_cases hlq : q < s.size
            · have hbq := bt_eq s q hlq
              have HQ : Hid ((s[q].toNat : Int) = bt s q) := hbq
              clear hbq
              rcases Bool.eq_false_or_eq_true ((s[q].toNat : Int) == 32) with y1 | y1
              · have hno : okc (bt s q) = false := by rw [okc, ← HQ.out, y1]; rfl
                have hpq : p < q := by
                  by_cases e' : p = q
                  · subst e'; rw [HOK.out] at hno; exact Bool.noConfusion hno
                  · omega
                have HV : Hid (Adv s e p q) := adv_word s e p q hp0 hpq hq1 hq.out hqq.out (fun _ => hno)
                clear hno
                have y2 : ((s[q].toNat : Int) != 32) = false := by simpa [bne] using y1
                go_wp2
                go_region
                go_end0
                refine ⟨rfl, p, q, HV.out, ?_, ?_⟩
                · exact row_drew ((Bx.set1 hB1 _).set3 _)
                · exact ((hG1.set 1 _).set 3 _).drew1
              · have y2 : ((s[q].toNat : Int) != 32) = true := by simpa [bne] using y1
                have hb0 : 0 ≤ (s[q].toNat : Int) ∧ (s[q].toNat : Int) ≤ 255 := by have := UInt8.toNat_lt s[q]; omega
                have hI := fun w' => idxPunct (s[q].toNat : Int) w' hb0
                rcases Bool.eq_false_or_eq_true (isPunct (s[q].toNat : Int)) with y3 | y3
                · rw [y3] at hI
                  have HI : Hid (∀ w' : World, Calls Try.prog 21 #[.string { data := #[61, 33, 44, 40, 41] }, .int .u8 (s[q].toNat : Int)] w' fun ex w'' => (∃ r : Int, ex = .returned (.int .i64 r) ∧ decide (0 ≤ r) = true ∧ decide (r < 0) = !true) ∧ w'' = w') := hI
                  have hno : okc (bt s q) = false := by rw [okc, ← HQ.out, y3]; simp
                  have hpq : p < q := by
                    by_cases e' : p = q
                    · subst e'; rw [HOK.out] at hno; exact Bool.noConfusion hno
                    · omega
                  have HV : Hid (Adv s e p q) := adv_word s e p q hp0 hpq hq1 hq.out hqq.out (fun _ => hno)
                  clear hno hI
                  go_wp2_with fail
                  refine (HI.out _).mono ?_
                  rintro _ w' ⟨⟨r', rfl, hr1, hr2⟩, hw⟩
                  subst w'
                  have hr4 : ¬ r' < 0 := of_decide_eq_false hr2
                  clear hr1 hr2
                  go_wp2
                  go_region
                  go_end0
                  refine ⟨rfl, p, q, HV.out, ?_, ?_⟩
                  · exact row_drew ((Bx.set1 hB1 _).set3 _)
                  · exact ((hG1.set 1 _).set 3 _).drew1
                · rw [y3] at hI
                  have HI : Hid (∀ w' : World, Calls Try.prog 21 #[.string { data := #[61, 33, 44, 40, 41] }, .int .u8 (s[q].toNat : Int)] w' fun ex w'' => (∃ r : Int, ex = .returned (.int .i64 r) ∧ decide (0 ≤ r) = false ∧ decide (r < 0) = !false) ∧ w'' = w') := hI
                  have HG : Hid (∀ j, p ≤ j → j < q + 1 → okc (bt s j) = true) := fun j h1 h2 => by
                    by_cases e' : j = q
                    · subst e'; rw [okc, ← HQ.out, y1, y3]; rfl
                    · exact hqq.out j h1 (by omega)
                  clear hI
                  go_wp2_with fail
                  refine (HI.out _).mono ?_
                  rintro _ w' ⟨⟨r', rfl, hr1, hr2⟩, hw⟩
                  subst w'
                  have hr4 : r' < 0 := of_decide_eq_true hr2
                  clear hr1 hr2
                  go_wp2
                  go_round
                  case rel => exact ⟨q + 1, by omega, by omega, by go_num, HG⟩
                  case measure => simp [intOf]; omega
            · have hqe : q = s.size := by omega
              subst hqe
              have HV : Hid (Adv s e p s.size) := adv_word s e p s.size hp0 (by omega) hq1 hq.out hqq.out (fun h => absurd h hlq)
              go_wp2
              go_region
              go_end0
              refine ⟨rfl, p, s.size, HV.out, ?_, ?_⟩
              · exact row_drew ((Bx.set1 hB1 _).set3 _)
              · exact ((hG1.set 1 _).set 3 _).drew1
    · have hpe : p = s.size := by omega
      subst hpe
      go_wp2
      have hB1 := hB.set2 (sb := sb) (s.size : Int)
      have hG1 := (Gr.refl sb w).set 2 (.int .i64 (s.size : Int))
      generalize w.setCell ⟨sb, 2, none⟩ (.int .i64 (s.size : Int)) = w1 at hB1 hG1 ⊢
      have d0 : w1.cell? ⟨sb, 0, none⟩ = some (.string s) := hB1.cell (i := 0) (by omega)
      have d1 : w1.cell? ⟨sb, 1, none⟩ = some (.string k) := hB1.cell (i := 1) (by omega)
      have d2 : w1.cell? ⟨sb, 2, none⟩ = some (.int .i64 (s.size : Int)) := hB1.cell (i := 2) (by omega)
      have d3 : w1.cell? ⟨sb, 3, none⟩ = some (.int .i64 e) := hB1.cell (i := 3) (by omega)
      have x1 := hB1.frozen 1
      have x3 := hB1.frozen 3
      go_region
      go_end0
      refine ⟨rfl, s.size, s.size, adv_end s e hp0 hq.out, ?_, ?_⟩
      · rw [show s.extract s.size s.size = ByteArray.empty by simp]
        exact row_drew ((Bx.set1 hB1 _).set3 _)
      · exact ((hG1.set 1 _).set 3 _).drew1
end Go.Proofs.Qxb6603719a
