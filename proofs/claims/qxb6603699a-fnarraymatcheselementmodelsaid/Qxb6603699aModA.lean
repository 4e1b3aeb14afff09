import Derived.Test.Qxb6603699aMod
import Derived.Test.Qxb6603699aSmallA
import Derived.Deep.AppendLies
namespace Go.Proofs.Qxb6603699a
open Go.RowKit

theorem Try.info3 : (Try.prog.info? 3).map (fun i => (i.zero, i.size, i.bytes)) = some (some (.int .i64 0), 1, 8) := by kernel_rfl

theorem results_tmp4 {fn : Func} {t u v x : Tmp} (h : fn.results = #[.tmp t, .tmp u, .tmp v, .tmp x]) (tmps : Array Value) (P : Program) (w : World) :
    (results fn tmps).run P w = .ok (.tuple #[tmps.getD t undef, tmps.getD u undef, tmps.getD v undef, tmps.getD x undef]) w := by
  simp [results, h]

def starts (L : List (Nat × Nat)) : List Value := L.map fun x => .int .i64 ((x.1 : Nat) : Int)
def ends (L : List (Nat × Nat)) : List Value := L.map fun x => .int .i64 ((x.2 : Nat) : Int)
theorem starts_snoc (L : List (Nat × Nat)) (a b : Nat) : starts (L ++ [(a, b)]) = starts L ++ [.int .i64 (a : Int)] := by simp [starts]
theorem ends_snoc (L : List (Nat × Nat)) (a b : Nat) : ends (L ++ [(a, b)]) = ends L ++ [.int .i64 (b : Int)] := by simp [ends]

/-- The model's two slices. -/
structure AM (w wr : World) (L : List (Nat × Nat)) (sv ev : Value) : Prop where
  below : Below w.heap.size w wr
  s : wr.ownsRow w.heap.size 3 1 sv L.length (starts L)
  e : wr.ownsRow w.heap.size 3 1 ev L.length (ends L)
  d : ∀ g, sv.ownBlock = some g → ev.ownBlock ≠ some g

theorem AM.start (w : World) : AM w w [] (.slice none 0 0) (.slice none 0 0) := ⟨Below.refl _ _, World.ownsRow_nil _ _ _ _, World.ownsRow_nil _ _ _ _, fun g h => by cases h⟩

theorem own_lt {w : World} {base : Nat} {e : TypeId} {size : Nat} {v : Value} {n : Nat} {xs : List Value} (h : w.ownsRow base e size v n xs) {g : Nat} (hg : v.ownBlock = some g) : base ≤ g ∧ g < w.heap.size := h.lt g hg

/-- Behind the first append. -/
theorem AM.mid {w wr w1 : World} {L : List (Nat × Nat)} {sv ev : Value} {o : Obj} (h : AM w wr L sv ev) (hg : (wr.alloc o).grownBy w1 sv.ownBlock) : w1.ownsRow w.heap.size 3 1 ev L.length (ends L) :=
  (h.e.alloc o).kept hg (by
    cases hs : ev.ownBlock with
    | none => exact Or.inl rfl
    | some g => exact Or.inr (fun he => h.d g he.symm hs))

/-- Behind both. -/
theorem AM.push {w wr w1 w2 : World} {L : List (Nat × Nat)} {sv ev : Value} {o1 o2 : Obj} {p e g1 c1 g2 c2 : Nat} (h : AM w wr L sv ev) (hgr1 : (wr.alloc o1).grownBy w1 sv.ownBlock) (hat1 : sv.ownBlock = some g1 ∨ g1 = wr.heap.size + 1)
    (hown1 : w1.ownsRow w.heap.size 3 1 (.slice (some ⟨g1, 0, none⟩) (L.length + 1) c1) (L.length + 1) (starts L ++ [.int .i64 (p : Int)]))
    (hgr2 : (w1.alloc o2).grownBy w2 ev.ownBlock) (hat2 : ev.ownBlock = some g2 ∨ g2 = w1.heap.size + 1)
    (hown2 : w2.ownsRow w.heap.size 3 1 (.slice (some ⟨g2, 0, none⟩) (L.length + 1) c2) (L.length + 1) (ends L ++ [.int .i64 (e : Int)])) :
    AM w w2 (L ++ [(p, e)]) (.slice (some ⟨g1, 0, none⟩) (L.length + 1) c1) (.slice (some ⟨g2, 0, none⟩) (L.length + 1) c2) := by
  have hB := h.below.size
  have b1 : Below w.heap.size w w1 := (h.below.alloc hB o1).grown hgr1 (by simp; omega) (fun k hk => (h.s.lt k hk).1)
  have b2 : Below w.heap.size w w2 := (b1.alloc b1.size o2).grown hgr2 (by have := b1.size; simp; omega) (fun k hk => (h.e.lt k hk).1)
  have l1 := own_lt hown1 (g := g1) rfl
  have hne : g2 ≠ g1 := by
    rintro rfl
    rcases hat2 with ha | ha
    · rcases hat1 with hb | hb
      · exact h.d _ hb ha
      · have := (own_lt h.e ha).2; omega
    · omega
  refine ⟨b2, ?_, ?_, ?_⟩
  · rw [starts_snoc, List.length_append]
    exact (hown1.alloc o2).kept hgr2 (Or.inr (by
      show some g1 ≠ ev.ownBlock
      intro he
      rcases hat1 with hb | hb
      · exact h.d _ hb he.symm
      · have := (own_lt h.e he.symm).2; omega))
  · rw [ends_snoc, List.length_append]
    exact hown2
  · intro g hg he
    have e1 : g1 = g := by simpa [Value.ownBlock] using hg
    have e2 : g2 = g := by simpa [Value.ownBlock] using he
    omega

def ret4 (sv ev : Value) (b : Bool) (q : Nat) : Value := .tuple #[sv, ev, .bool b, .int .i64 (q : Int)]

/-- what the model hands back -/
def AMpost (w : World) (r : List (Nat × Nat) × Bool × Nat) (e : Ending) (w' : World) : Prop :=
  ∃ sv ev, e = .returned (ret4 sv ev r.2.1 r.2.2) ∧ AM w w' r.1 sv ev

set_option maxHeartbeats 400000 in
theorem arrModel_no (a : Option Addr) (n cp i : Nat) (w : World) (hi : n ≤ i) :
    Calls Try.prog 13 #[.slice a n cp, .int .i64 i] w (AMpost w ([], false, i)) := by
  have h : (n : Int) ≤ (i : Int) := by omega
  have hd : decide (n ≤ i) = true := by simp; omega
  go_enter Try.func13, Try.ntmps13
  go_wp2
  refine bodyPost_ret (results_tmp4 rfl _ _ _) rfl ?_
  exact ⟨_, _, rfl, AM.start w⟩

set_option maxHeartbeats 400000 in
theorem arrModel_no91 (tb n cp i : Nat) (t : Nat → Int) (w : World) (hi : i < n) (hq : t i ≠ 91) (hT : w.rowIs tb 5 n (fun k => .int .u8 (t k))) :
    Calls Try.prog 13 #[.slice (some ⟨tb, 0, none⟩) n cp, .int .i64 i] w (AMpost w ([], false, i)) := by
  have h : (i : Int) < (n : Int) := by omega
  have hd : decide (n ≤ i) = false := by simp; omega
  have hb : (t i != 91) = true := by simp [hq]
  have g3 := hT.cell hi
  clear hq
  go_enter Try.func13, Try.ntmps13
  go_wp2
  refine bodyPost_ret (results_tmp4 rfl _ _ _) rfl ?_
  exact ⟨_, _, rfl, AM.start w⟩

set_option maxHeartbeats 400000 in
theorem arrModel_empty (tb n cp i q : Nat) (t : Nat → Int) (w : World) (hn : n ≤ 1048576) (hi : i < n) (hq : t i = 91) (hsk : skip t n (i + 1) = q) (hqn : q < n) (h93 : t q = 93) (hT : w.rowIs tb 5 n (fun k => .int .u8 (t k))) :
    Calls Try.prog 13 #[.slice (some ⟨tb, 0, none⟩) n cp, .int .i64 i] w (AMpost w ([], true, q + 1)) := by
  have h : (i : Int) < (n : Int) := by omega
  have hd : decide (n ≤ i) = false := by simp; omega
  have hb : (t i != 91) = false := by simp [hq]
  have h2 : (q : Int) < (n : Int) := by omega
  have hd2 : decide (q < n) = true := by simp; omega
  have g3 := hT.cell hi
  have g4 := hT.cell hqn
  have HS : Hid (Calls Try.prog 35 #[.slice (some ⟨tb, 0, none⟩) n cp, .int .i64 ((i + 1 : Nat) : Int)] w fun e w' => e = .returned (.int .i64 (skip t n (i + 1) : Nat)) ∧ w' = w) := rbSkip_any tb n cp (i + 1) t w hn (by omega) hT
  rw [hsk] at HS
  clear hq hsk
  go_enter Try.func13, Try.ntmps13
  go_wp2_with (go_at_call 35; refine HS.out.mono ?_; rintro e w' ⟨rfl, hw⟩; subst w')
  refine bodyPost_ret (results_tmp4 rfl _ _ _) rfl ?_
  exact ⟨_, _, rfl, AM.start w⟩

theorem one_int (k : IntKind) (z : Int) : ∀ u ∈ [Value.int k z], u.oneCell' = true := by
  intro u hu
  simp at hu
  subst hu
  rfl

set_option maxHeartbeats 2000000 in
set_option maxRecDepth 100000 in
theorem arrModel_am (tb n cp i p1 : Nat) (t : Nat → Int) (w : World) (hn : n ≤ 1048576) (hi : i < n) (hq : t i = 91) (hsk : skip t n (i + 1) = p1) (hc : ¬ (p1 < n ∧ t p1 = 93)) (hT : w.rowIs tb 5 n (fun k => .int .u8 (t k))) :
    Calls Try.prog 13 #[.slice (some ⟨tb, 0, none⟩) n cp, .int .i64 i] w (AMpost w (am t n p1 [])) := by
  have h : (i : Int) < (n : Int) := by omega
  have hd : decide (n ≤ i) = false := by simp; omega
  have hb : (t i != 91) = false := by simp [hq]
  have g3 := hT.cell hi
  have hp1 : p1 ≤ n := by rw [← hsk]; exact (skip_bd t n (i + 1) (by omega)).2
  have HS : Hid (Calls Try.prog 35 #[.slice (some ⟨tb, 0, none⟩) n cp, .int .i64 ((i + 1 : Nat) : Int)] w fun e w' => e = .returned (.int .i64 (skip t n (i + 1) : Nat)) ∧ w' = w) := rbSkip_any tb n cp (i + 1) t w hn (by omega) hT
  rw [hsk] at HS
  obtain ⟨i0, hi0, hz0, hz1, hz2⟩ := info_parts Try.info3
  have HI : Hid (Try.prog.info? 3 = some i0 ∧ i0.zero = some (.int .i64 0) ∧ i0.size = 1 ∧ i0.bytes = 8) := ⟨hi0, hz0, hz1, hz2⟩
  clear hq hsk hi0 hz0 hz1 hz2
  have hbits : (p1 < n ∧ (t p1 == 93) = false) ∨ p1 = n := by
    by_cases hlt : p1 < n
    · exact Or.inl ⟨hlt, beq_eq_false_iff_ne.2 (fun h => hc ⟨hlt, h⟩)⟩
    · exact Or.inr (by omega)
  clear hc
  have htb := hT.lt
  rcases hbits with ⟨hlt, h93⟩ | hlt
  rotate_left
  · have hd2 : decide (p1 < n) = false := by simp; omega
    clear hlt
    go_enter Try.func13, Try.ntmps13
    go_wp2_with (go_at_call 35; refine HS.out.mono ?_; rintro e w' ⟨rfl, hw⟩; subst w')
    clear g3 hd2 h hd hb HS
    go_loopg [9, 10, 11] (n + 1 - p1) (fun g v9 sv ev wr => ∃ (p : Nat) (L : List (Nat × Nat)), g = n + 1 - p ∧ v9 = .int .i64 p ∧ p ≤ n ∧ L.length ≤ p ∧ am t n p L = am t n p1 [] ∧ AM w wr L sv ev)
    case atStart => exact ⟨p1, [], rfl, rfl, hp1, Nat.zero_le _, rfl, AM.start w⟩
    case round =>
      obtain ⟨p, L, hg, rfl, hpn, hL, hEq, hA⟩ := hrel
      have A : Aside (gk = n + 1 - p ∧ am t n p L = am t n p1 []) := ⟨hg, hEq⟩
      clear hg hEq
      have hTr : wr.rowIs tb 5 n (fun k => .int .u8 (t k)) := hT.of_block (hA.below.block tb htb)
      have hb1 := valF_bd t n p hpn
      have hfail := am_fail t n p L hpn
      have hmore := am_more t n p L hpn
      have hclose := am_close t n p L hpn
      have hlast := am_last t n p L hpn
      obtain ⟨ok, e, hv⟩ : ∃ ok e, valF t n p = (ok, e) := ⟨_, _, rfl⟩
      rw [hv] at hb1 hfail hmore hclose hlast
      have HV : Hid (valF t n p = (ok, e)) := hv
      have HF : Hid (ok = false → am t n p L = ([], false, e)) := hfail
      have HM : Hid (ok = true → skip t n e < n → t (skip t n e) = 44 → am t n p L = am t n (skip t n (skip t n e + 1)) (L ++ [(p, e)])) := hmore
      have HC : Hid (ok = true → skip t n e < n → t (skip t n e) = 93 → am t n p L = (L ++ [(p, e)], true, skip t n e + 1)) := hclose
      have HL : Hid (ok = true → ¬ (skip t n e < n ∧ (t (skip t n e) = 44 ∨ t (skip t n e) = 93)) → am t n p L = (L ++ [(p, e)], false, skip t n e)) := hlast
      clear hv hfail hmore hclose hlast
      have hen : e ≤ n := hb1.1
      have hsk := skip_bd t n e hen
      have hlp : (p : Int) < (n : Int) + 1 := by omega
      cases ok with
      | false =>
        replace HF : Hid (am t n p L = ([], false, e)) := HF.out rfl
        clear hsk HM HC HL
        go_wp2_with (go_at_call 10; refine (model_any tb n cp p t _ hn hTr).mono ?_; rw [HV.out]; rintro e' w' ⟨rfl, hw⟩; subst w'; unfold ret2)
        refine bodyPost_ret (results_tmp4 rfl _ _ _) rfl ?_
        rw [← A.out.2, HF.out]
        exact ⟨_, _, rfl, ⟨hA.below, World.ownsRow_nil _ _ _ _, World.ownsRow_nil _ _ _ _, fun g h => by cases h⟩⟩
      | true =>
        have hpe := hb1.2 rfl
        replace HM : Hid (skip t n e < n → t (skip t n e) = 44 → am t n p L = am t n (skip t n (skip t n e + 1)) (L ++ [(p, e)])) := HM.out rfl
        replace HC : Hid (skip t n e < n → t (skip t n e) = 93 → am t n p L = (L ++ [(p, e)], true, skip t n e + 1)) := HC.out rfl
        replace HL : Hid (¬ (skip t n e < n ∧ (t (skip t n e) = 44 ∨ t (skip t n e) = 93)) → am t n p L = (L ++ [(p, e)], false, skip t n e)) := HL.out rfl
        clear HF hb1
        go_wp2_with (first | (go_at_call 10; refine (model_any tb n cp p t _ hn hTr).mono ?_; rw [HV.out]; rintro e' w' ⟨rfl, hw⟩; subst w'; unfold ret2) | (at_builtin; refine wpList_append_lies _ rfl (.tmp 56) (.tmp 58) 28 rfl w.heap.size 3 i0 (.int .i64 0) 1 8 Try.underlying28 HI.out.1 HI.out.2.1 HI.out.2.2.1 HI.out.2.2.2 rfl (by decide) _ _ _ rfl (hA.s.alloc _) ⟨wr.heap.size, 0, none⟩ 1 1 [.int .i64 p] rfl rfl (cell_one_new _ _ _) (one_int _ _) (by omega) (by unfold maxLen; omega) (by omega) (by have := hA.below.size; simp; omega) (wr.heap.size + 1) (by simp) ?_; intro g1 c1 w1 hown1 hgr1 hat1 hlt1) | (at_builtin; refine wpList_append_lies _ rfl (.tmp 60) (.tmp 62) 28 rfl w.heap.size 3 i0 (.int .i64 0) 1 8 Try.underlying28 HI.out.1 HI.out.2.1 HI.out.2.2.1 HI.out.2.2.2 rfl (by decide) _ _ _ rfl ((hA.mid hgr1).alloc _) ⟨w1.heap.size, 0, none⟩ 1 1 [.int .i64 e] rfl rfl (cell_one_new _ _ _) (one_int _ _) (by omega) (by unfold maxLen; omega) (by omega) (by have a1 := hA.below.size; have a2 := hgr1.size; rw [World.size_alloc] at a2; rw [World.size_alloc]; omega) (w1.heap.size + 1) (by simp) ?_; intro g2 c2 w2 hown2 hgr2 hat2 hlt2))
        have hP := hA.push hgr1 hat1 hown1 hgr2 hat2 hown2
        clear hgr1 hat1 hown1 hgr2 hat2 hown2 hlt1 hlt2 hA hTr
        have hT2 : w2.rowIs tb 5 n (fun k => .int .u8 (t k)) := hT.of_block (hP.below.block tb htb)
        obtain ⟨q, hqe⟩ : ∃ q, skip t n e = q := ⟨_, rfl⟩
        rw [hqe] at HM HC HL hsk
        have HQ : Hid (skip t n e = q) := hqe
        clear hqe
        by_cases hqn : q < n
        · have hz : (q : Int) < (n : Int) := by omega
          have hdq : decide (q < n) = true := by simp; omega
          have gq := hT2.cell hqn
          by_cases c44 : t q = 44
          · have hb44 : (t q == 44) = true := beq_iff_eq.2 c44
            replace HM : Hid (am t n p L = am t n (skip t n (q + 1)) (L ++ [(p, e)])) := HM.out hqn c44
            have hsk2 := skip_bd t n (q + 1) (by omega)
            clear HC HL c44
            have HS2 : Hid (Calls Try.prog 35 #[.slice (some ⟨tb, 0, none⟩) n cp, .int .i64 ((q + 1 : Nat) : Int)] w2 fun e w' => e = .returned (.int .i64 (skip t n (q + 1) : Nat)) ∧ w' = w2) := rbSkip_any tb n cp (q + 1) t w2 hn (by omega) hT2
            obtain ⟨p', hp'⟩ : ∃ p', skip t n (q + 1) = p' := ⟨_, rfl⟩
            rw [hp'] at HM hsk2 HS2
            clear hp'
            refine (rbSkip_any tb n cp e t _ hn hen hT2).mono ?_
            rw [HQ.out]
            rintro e' w' ⟨rfl, hw⟩
            subst w'
            go_wp2_with fail
            refine HS2.out.mono ?_
            rintro e' w' ⟨rfl, hw⟩
            subst w'
            go_wp2
            go_roundg (n + 1 - p')
            case measure => have := A.out.1; omega
            case rel =>
              refine ⟨p', L ++ [(p, e)], rfl, rfl, by omega, by simp; omega, ?_, hP⟩
              rw [← A.out.2, HM.out]
          · have hb44 : (t q == 44) = false := beq_eq_false_iff_ne.2 c44
            by_cases c93 : t q = 93
            · have hb93 : (t q == 93) = true := beq_iff_eq.2 c93
              replace HC : Hid (am t n p L = (L ++ [(p, e)], true, q + 1)) := HC.out hqn c93
              clear HM HL c44 c93
              refine (rbSkip_any tb n cp e t _ hn hen hT2).mono ?_
              rw [HQ.out]
              rintro e' w' ⟨rfl, hw⟩
              subst w'
              go_wp2
              refine bodyPost_ret (results_tmp4 rfl _ _ _) rfl ?_
              rw [← A.out.2, HC.out]
              exact ⟨_, _, rfl, hP⟩
            · have hb93 : (t q == 93) = false := beq_eq_false_iff_ne.2 c93
              replace HL : Hid (am t n p L = (L ++ [(p, e)], false, q)) := HL.out (by omega)
              clear HM HC c44 c93
              refine (rbSkip_any tb n cp e t _ hn hen hT2).mono ?_
              rw [HQ.out]
              rintro e' w' ⟨rfl, hw⟩
              subst w'
              go_wp2
              refine bodyPost_ret (results_tmp4 rfl _ _ _) rfl ?_
              rw [← A.out.2, HL.out]
              exact ⟨_, _, rfl, hP⟩
        · have hdq : decide (q < n) = false := by simp; omega
          replace HL : Hid (am t n p L = (L ++ [(p, e)], false, q)) := HL.out (by omega)
          clear HM HC
          refine (rbSkip_any tb n cp e t _ hn hen hT2).mono ?_
          rw [HQ.out]
          rintro e' w' ⟨rfl, hw⟩
          subst w'
          go_wp2
          refine bodyPost_ret (results_tmp4 rfl _ _ _) rfl ?_
          rw [← A.out.2, HL.out]
          exact ⟨_, _, rfl, hP⟩
  · have h2 : (p1 : Int) < (n : Int) := by omega
    have hd2 : decide (p1 < n) = true := by simp; omega
    have g4 := hT.cell hlt
    go_enter Try.func13, Try.ntmps13
    go_wp2_with (go_at_call 35; refine HS.out.mono ?_; rintro e w' ⟨rfl, hw⟩; subst w')
    clear g3 g4 h93 h2 hd2 hlt h hd hb HS
    go_loopg [9, 10, 11] (n + 1 - p1) (fun g v9 sv ev wr => ∃ (p : Nat) (L : List (Nat × Nat)), g = n + 1 - p ∧ v9 = .int .i64 p ∧ p ≤ n ∧ L.length ≤ p ∧ am t n p L = am t n p1 [] ∧ AM w wr L sv ev)
    case atStart => exact ⟨p1, [], rfl, rfl, hp1, Nat.zero_le _, rfl, AM.start w⟩
    case round =>
      obtain ⟨p, L, hg, rfl, hpn, hL, hEq, hA⟩ := hrel
      have A : Aside (gk = n + 1 - p ∧ am t n p L = am t n p1 []) := ⟨hg, hEq⟩
      clear hg hEq
      have hTr : wr.rowIs tb 5 n (fun k => .int .u8 (t k)) := hT.of_block (hA.below.block tb htb)
      have hb1 := valF_bd t n p hpn
      have hfail := am_fail t n p L hpn
      have hmore := am_more t n p L hpn
      have hclose := am_close t n p L hpn
      have hlast := am_last t n p L hpn
      obtain ⟨ok, e, hv⟩ : ∃ ok e, valF t n p = (ok, e) := ⟨_, _, rfl⟩
      rw [hv] at hb1 hfail hmore hclose hlast
      have HV : Hid (valF t n p = (ok, e)) := hv
      have HF : Hid (ok = false → am t n p L = ([], false, e)) := hfail
      have HM : Hid (ok = true → skip t n e < n → t (skip t n e) = 44 → am t n p L = am t n (skip t n (skip t n e + 1)) (L ++ [(p, e)])) := hmore
      have HC : Hid (ok = true → skip t n e < n → t (skip t n e) = 93 → am t n p L = (L ++ [(p, e)], true, skip t n e + 1)) := hclose
      have HL : Hid (ok = true → ¬ (skip t n e < n ∧ (t (skip t n e) = 44 ∨ t (skip t n e) = 93)) → am t n p L = (L ++ [(p, e)], false, skip t n e)) := hlast
      clear hv hfail hmore hclose hlast
      have hen : e ≤ n := hb1.1
      have hsk := skip_bd t n e hen
      have hlp : (p : Int) < (n : Int) + 1 := by omega
      cases ok with
      | false =>
        replace HF : Hid (am t n p L = ([], false, e)) := HF.out rfl
        clear hsk HM HC HL
        go_wp2_with (go_at_call 10; refine (model_any tb n cp p t _ hn hTr).mono ?_; rw [HV.out]; rintro e' w' ⟨rfl, hw⟩; subst w'; unfold ret2)
        refine bodyPost_ret (results_tmp4 rfl _ _ _) rfl ?_
        rw [← A.out.2, HF.out]
        exact ⟨_, _, rfl, ⟨hA.below, World.ownsRow_nil _ _ _ _, World.ownsRow_nil _ _ _ _, fun g h => by cases h⟩⟩
      | true =>
        have hpe := hb1.2 rfl
        replace HM : Hid (skip t n e < n → t (skip t n e) = 44 → am t n p L = am t n (skip t n (skip t n e + 1)) (L ++ [(p, e)])) := HM.out rfl
        replace HC : Hid (skip t n e < n → t (skip t n e) = 93 → am t n p L = (L ++ [(p, e)], true, skip t n e + 1)) := HC.out rfl
        replace HL : Hid (¬ (skip t n e < n ∧ (t (skip t n e) = 44 ∨ t (skip t n e) = 93)) → am t n p L = (L ++ [(p, e)], false, skip t n e)) := HL.out rfl
        clear HF hb1
        go_wp2_with (first | (go_at_call 10; refine (model_any tb n cp p t _ hn hTr).mono ?_; rw [HV.out]; rintro e' w' ⟨rfl, hw⟩; subst w'; unfold ret2) | (at_builtin; refine wpList_append_lies _ rfl (.tmp 56) (.tmp 58) 28 rfl w.heap.size 3 i0 (.int .i64 0) 1 8 Try.underlying28 HI.out.1 HI.out.2.1 HI.out.2.2.1 HI.out.2.2.2 rfl (by decide) _ _ _ rfl (hA.s.alloc _) ⟨wr.heap.size, 0, none⟩ 1 1 [.int .i64 p] rfl rfl (cell_one_new _ _ _) (one_int _ _) (by omega) (by unfold maxLen; omega) (by omega) (by have := hA.below.size; simp; omega) (wr.heap.size + 1) (by simp) ?_; intro g1 c1 w1 hown1 hgr1 hat1 hlt1) | (at_builtin; refine wpList_append_lies _ rfl (.tmp 60) (.tmp 62) 28 rfl w.heap.size 3 i0 (.int .i64 0) 1 8 Try.underlying28 HI.out.1 HI.out.2.1 HI.out.2.2.1 HI.out.2.2.2 rfl (by decide) _ _ _ rfl ((hA.mid hgr1).alloc _) ⟨w1.heap.size, 0, none⟩ 1 1 [.int .i64 e] rfl rfl (cell_one_new _ _ _) (one_int _ _) (by omega) (by unfold maxLen; omega) (by omega) (by have a1 := hA.below.size; have a2 := hgr1.size; rw [World.size_alloc] at a2; rw [World.size_alloc]; omega) (w1.heap.size + 1) (by simp) ?_; intro g2 c2 w2 hown2 hgr2 hat2 hlt2))
        have hP := hA.push hgr1 hat1 hown1 hgr2 hat2 hown2
        clear hgr1 hat1 hown1 hgr2 hat2 hown2 hlt1 hlt2 hA hTr
        have hT2 : w2.rowIs tb 5 n (fun k => .int .u8 (t k)) := hT.of_block (hP.below.block tb htb)
        obtain ⟨q, hqe⟩ : ∃ q, skip t n e = q := ⟨_, rfl⟩
        rw [hqe] at HM HC HL hsk
        have HQ : Hid (skip t n e = q) := hqe
        clear hqe
        by_cases hqn : q < n
        · have hz : (q : Int) < (n : Int) := by omega
          have hdq : decide (q < n) = true := by simp; omega
          have gq := hT2.cell hqn
          by_cases c44 : t q = 44
          · have hb44 : (t q == 44) = true := beq_iff_eq.2 c44
            replace HM : Hid (am t n p L = am t n (skip t n (q + 1)) (L ++ [(p, e)])) := HM.out hqn c44
            have hsk2 := skip_bd t n (q + 1) (by omega)
            clear HC HL c44
            have HS2 : Hid (Calls Try.prog 35 #[.slice (some ⟨tb, 0, none⟩) n cp, .int .i64 ((q + 1 : Nat) : Int)] w2 fun e w' => e = .returned (.int .i64 (skip t n (q + 1) : Nat)) ∧ w' = w2) := rbSkip_any tb n cp (q + 1) t w2 hn (by omega) hT2
            obtain ⟨p', hp'⟩ : ∃ p', skip t n (q + 1) = p' := ⟨_, rfl⟩
            rw [hp'] at HM hsk2 HS2
            clear hp'
            refine (rbSkip_any tb n cp e t _ hn hen hT2).mono ?_
            rw [HQ.out]
            rintro e' w' ⟨rfl, hw⟩
            subst w'
            go_wp2_with fail
            refine HS2.out.mono ?_
            rintro e' w' ⟨rfl, hw⟩
            subst w'
            go_wp2
            go_roundg (n + 1 - p')
            case measure => have := A.out.1; omega
            case rel =>
              refine ⟨p', L ++ [(p, e)], rfl, rfl, by omega, by simp; omega, ?_, hP⟩
              rw [← A.out.2, HM.out]
          · have hb44 : (t q == 44) = false := beq_eq_false_iff_ne.2 c44
            by_cases c93 : t q = 93
            · have hb93 : (t q == 93) = true := beq_iff_eq.2 c93
              replace HC : Hid (am t n p L = (L ++ [(p, e)], true, q + 1)) := HC.out hqn c93
              clear HM HL c44 c93
              refine (rbSkip_any tb n cp e t _ hn hen hT2).mono ?_
              rw [HQ.out]
              rintro e' w' ⟨rfl, hw⟩
              subst w'
              go_wp2
              refine bodyPost_ret (results_tmp4 rfl _ _ _) rfl ?_
              rw [← A.out.2, HC.out]
              exact ⟨_, _, rfl, hP⟩
            · have hb93 : (t q == 93) = false := beq_eq_false_iff_ne.2 c93
              replace HL : Hid (am t n p L = (L ++ [(p, e)], false, q)) := HL.out (by omega)
              clear HM HC c44 c93
              refine (rbSkip_any tb n cp e t _ hn hen hT2).mono ?_
              rw [HQ.out]
              rintro e' w' ⟨rfl, hw⟩
              subst w'
              go_wp2
              refine bodyPost_ret (results_tmp4 rfl _ _ _) rfl ?_
              rw [← A.out.2, HL.out]
              exact ⟨_, _, rfl, hP⟩
        · have hdq : decide (q < n) = false := by simp; omega
          replace HL : Hid (am t n p L = (L ++ [(p, e)], false, q)) := HL.out (by omega)
          clear HM HC
          refine (rbSkip_any tb n cp e t _ hn hen hT2).mono ?_
          rw [HQ.out]
          rintro e' w' ⟨rfl, hw⟩
          subst w'
          go_wp2
          refine bodyPost_ret (results_tmp4 rfl _ _ _) rfl ?_
          rw [← A.out.2, HL.out]
          exact ⟨_, _, rfl, hP⟩

/-- 'zzRBArrayModel' computes 'arr'. -/
theorem arrModel_any (tb n cp i : Nat) (t : Nat → Int) (w : World) (hn : n ≤ 1048576) (hT : w.rowIs tb 5 n (fun k => .int .u8 (t k))) :
    Calls Try.prog 13 #[.slice (some ⟨tb, 0, none⟩) n cp, .int .i64 i] w (AMpost w (arr t n i)) := by
  by_cases h1 : i < n
  · by_cases h2 : t i = 91
    · by_cases h3 : skip t n (i + 1) < n ∧ t (skip t n (i + 1)) = 93
      · rw [arr_empty t n i h1 h2 h3.1 h3.2]
        exact arrModel_empty tb n cp i _ t w hn h1 h2 rfl h3.1 h3.2 hT
      · rw [arr_am t n i h1 h2 h3]
        exact arrModel_am tb n cp i _ t w hn h1 h2 rfl h3 hT
    · rw [arr_no t n i (Or.inr h2)]
      exact arrModel_no91 tb n cp i t w h1 h2 hT
  · rw [arr_no t n i (Or.inl (by omega))]
    exact arrModel_no _ n cp i w (by omega)

end Go.Proofs.Qxb6603699a
