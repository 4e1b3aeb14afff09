import Derived.Test.Qxb6603699aArr1
namespace Go.Proofs.Qxb6603699a
open Go.RowKit
theorem AS.start {w w3 : World} {sb tb n : Nat} {t : Nat → Int} {p : Nat} {o : Obj} (hs : SameBut sb (w.alloc (.cells #[.slice none 0 0] 28)) w3) (hS : Sc w3 sb tb n t p) (hsb : sb < w.heap.size) (ho : o = .cells #[] 89) :
    AS w (w3.alloc o) sb tb n t w.heap.size p [] 0 (.slice (some ⟨w.heap.size + 1, 0, none⟩) 0 0) (.slice none 0 0) (fun _ => 0) (fun _ => 0) (fun _ => 0) := by
  subst ho
  have hz : w3.heap.size = w.heap.size + 1 := by rw [hs.size, World.size_alloc]
  refine ⟨((((Fr.refl (fun k => k = sb) w).alloc _).same hs (Or.inl rfl)).alloc _), ⟨hS.at_.alloc _, hS.text.alloc _⟩, ?_, Nat.le_refl _, World.ownsRow_nil _ _ _ _, ?_, rfl, fun c h => by omega, fun c h => by omega, fun c h => by omega, fun c h => by omega⟩
  · have r : (w.alloc (.cells #[.slice none 0 0] 28)).rowIs w.heap.size 28 1 (fun _ => .slice none 0 0) := World.rowIs_alloc w #[.slice none 0 0] 28 _ (fun k hk => by
      match k, hk with
      | 0, _ => rfl)
    exact (hs.row (by omega) r).alloc _
  · refine ⟨rfl, Or.inr ⟨w.heap.size + 1, 0, #[], rfl, Nat.le_succ _, ?_, Nat.le_refl _, Nat.zero_le _, rfl, rfl⟩⟩
    rw [← hz]
    show (w3.heap.push _)[w3.heap.size]? = _
    simp

theorem AS.drewN {w0 w : World} {sb tb n : Nat} {t : Nat → Int} {chb p : Nat} {L0 : List (Nat × Nat)} {b : Nat} {bv vc : Value} {St En VB : Nat → Nat} (h : AS w0 w sb tb n t chb p L0 b bv vc St En VB) (q : Nat) : AS w0 (w.drewN q) sb tb n t chb p L0 b bv vc St En VB :=
  ⟨h.fr.drewN q, h.sc.drewN q, h.ch, h.chN, h.own, h.bl, h.len, h.st, h.en, h.ne, h.vm⟩

theorem new2 (w1 : World) (o : Obj) (a b c d : Value) (t : TypeId) : ∀ j u, [a, b, c, d][j]? = some u → ((w1.alloc o).alloc (.cells #[a, b, c, d] t)).cell? ((⟨w1.heap.size + 1, 0, none⟩ : Addr).add j) = some u := by
  have hb : ((w1.alloc o).alloc (.cells #[a, b, c, d] t)).heap[w1.heap.size + 1]? = some (.cells #[a, b, c, d] t (0, 0)) := by
    show (((w1.heap.push o).push _)[w1.heap.size + 1]?) = _
    rw [Array.getElem?_push, if_pos (by simp)]
  exact World.news_of_block hb

theorem one4 (a b : Int) (x y : Value) (hx : x.oneCell' = true) (hy : y.oneCell' = true) : ∀ u ∈ [Value.int .i64 a, .int .i64 b, x, y], u.oneCell' = true := by
  intro u hu
  simp at hu
  rcases hu with rfl | rfl | rfl | rfl
  · rfl
  · rfl
  · exact hx
  · exact hy

set_option maxHeartbeats 2000000 in
set_option maxRecDepth 100000 in
theorem array_am (sb tb n i p1 : Nat) (t : Nat → Int) (w : World) (hn : n ≤ 1048576) (ht : ∀ k, 0 ≤ t k ∧ t k ≤ 255) (hS : Sc w sb tb n t i) (hi : i < n) (h91 : t i = 91) (hsk : skip t n (i + 1) = p1) (hc : ¬ (p1 < n ∧ t p1 = 93)) :
    Calls Try.prog 32 #[.pointer (some ⟨sb, 0, none⟩), .slice none 0 0] w (Apost w sb tb n t (am t n p1 [])) := by
  have hSa : ∀ o, Sc (w.alloc o) sb tb n t i := fun o => ⟨hS.at_.alloc o, hS.text.alloc o⟩
  have hsb := hS.at_.lt
  have htb := hS.text.lt
  have hp1 : p1 ≤ n := by rw [← hsk]; exact (skip_bd t n (i + 1) (by omega)).2
  have H : Hid (t i = 91 ∧ skip t n (i + 1) = p1) := ⟨h91, hsk⟩
  have htake : ∀ W : World, Sc W sb tb n t p1 → Calls Try.prog 42 #[.pointer (some ⟨sb, 0, none⟩), .int .u8 93] W fun e w' => e = .returned (.bool false) ∧ SameBut sb W w' ∧ w'.rowIs sb 66 2 (scv (.slice (some ⟨tb, 0, none⟩) n n) p1) := fun W hW => by
    by_cases hlt : p1 < n
    · exact take_no sb tb n p1 93 t W hlt (fun h => hc ⟨hlt, h⟩) hW.at_ hW.text
    · exact take_end sb n p1 _ 93 W (by omega) hW.at_
  have HT : Hid (∀ W : World, Sc W sb tb n t p1 → Calls Try.prog 42 #[.pointer (some ⟨sb, 0, none⟩), .int .u8 93] W fun e w' => e = .returned (.bool false) ∧ SameBut sb W w' ∧ w'.rowIs sb 66 2 (scv (.slice (some ⟨tb, 0, none⟩) n n) p1)) := htake
  clear h91 hsk hc htake
  have hmk := mk70
  obtain ⟨i0, hi0, hz0, hz1, hz2⟩ := info_parts Try.info89
  have HI : Hid (Try.prog.info? 89 = some i0 ∧ i0.zero = some (.agg #[.int .i64 0, .int .i64 0, .slice none 0 0, .slice none 0 0]) ∧ i0.size = 4 ∧ i0.bytes = 64) := ⟨hi0, hz0, hz1, hz2⟩
  clear hi0 hz0 hz1 hz2
  go_enter Try.func32, Try.ntmps32
  go_wp2_with fail
  refine (take_yes sb tb n i 91 t _ hn hi H.out.1 (hSa _).at_ (hSa _).text).mono ?_
  rintro _ w1 ⟨rfl, hs1, hr1⟩
  have hS1 := (hSa _).to hs1 hr1
  go_wp2_with fail
  refine (space_any sb tb n (i + 1) t _ hn (by omega) hS1).mono ?_
  rw [H.out.2]
  rintro _ w2 ⟨rfl, hs2, hS2⟩
  go_wp2_with fail
  refine (HT.out _ hS2).mono ?_
  rintro _ w3 ⟨rfl, hs3, hr3⟩
  have hS3 := hS2.to hs3 hr3
  have hs := (hs1.trans hs2).trans hs3
  have hz3 : w3.heap.size = w.heap.size + 1 := by rw [hs.size, World.size_alloc]
  have hA0 := AS.start hs hS3 hsb rfl
  clear hs1 hs2 hs3 hr1 hr3 hS1 hS2 hs hS3 HT
  go_wp2_with fail
  clear hz3 hmk
  go_loopg [4, 7] (n + 1 - p1) (fun g v4 v7 wr => ∃ (p : Nat) (L0 : List (Nat × Nat)) (b : Nat) (vc : Value) (St En VB : Nat → Nat), g = n + 1 - p ∧ v7 = .int .i64 (b : Int) ∧ p ≤ n ∧ 64 * b ≤ p ∧ am t n p L0 = am t n p1 [] ∧ AS w wr sb tb n t w.heap.size p L0 b v4 vc St En VB)
  case atStart => exact ⟨p1, [], 0, _, _, _, _, rfl, rfl, hp1, by omega, rfl, hA0⟩
  case round =>
    obtain ⟨p, L0, b, vc, St, En, VB, hg, rfl, hpn, hbp, hEq, hA⟩ := hrel
    have A : Aside (gk = n + 1 - p ∧ am t n p L0 = am t n p1 []) := ⟨hg, hEq⟩
    clear hg hEq hA0
    have hdz : decide ((b : Int) + 1 < 0) = false := by simp; omega
    have hsz := hA.fr.size
    go_wp2
    go_quiet (fail)
    have hA1 := hA.drewN nq
    generalize wr.drewN nq = wq at hA1 ⊢
    clear hA hsz
    have hsz := hA1.fr.size
    go_wp2_with fail
    refine (block_any sb tb n p b w.heap.size w.heap.size (64 * b) vc L0 t _ hn ht (by omega) rfl hbp hpn hsz hA1.sc hA1.ch hA1.own).mono ?_
    rintro _ w1 (⟨q, vc1, hfin, rfl, hfr, hsc, hch⟩ | ⟨K, more, p', en, vb, vc1, rfl, hK0, hK, hpe, hen, hpn', hpk, hhd, hbe, hcase⟩)
    · rw [A.out.2] at hfin
      have HF : Hid (am t n p1 [] = ([], false, q)) := hfin
      clear hfin
      have fr1 := (hA1.after hfr).1
      have x0 : ∀ o, (w1.alloc o).cell? ⟨w.heap.size, 0, none⟩ = some vc1 := fun o => (hch.alloc o).cell (i := 0) (by omega)
      have x1 : ∀ o, (w1.alloc o).frozen? ⟨w.heap.size, 0, none⟩ = false := fun o => (hch.alloc o).frozen 0
      unfold zeroB
      go_wp2
      rw [HF.out]
      refine bodyPost_ret (results32 rfl rfl rfl (World.cell?_setCell_same' _ _ _ (by rw [x0]; rfl))) rfl ?_
      have n1 : sb ≠ w.heap.size := by omega
      have n2 : tb ≠ w.heap.size := by omega
      exact ⟨_, _, _, _, _, _, rfl, AE.none _ ((fr1.alloc _).set (b := ⟨w.heap.size, 0, none⟩) (Or.inr (Nat.le_refl _)) _) ⟨(hsc.at_.alloc _).setOther n1 _, (hsc.text.alloc _).setOther n2 _⟩⟩
    · rw [A.out.2] at hcase
      have HC : Hid ((more = true ∧ K.length = 64 ∧ en = p' ∧ am t n p1 [] = am t n p' (L0 ++ K)) ∨ (more = false ∧ (∃ K' s, K = K' ++ [(s, en)]) ∧ am t n p1 [] = (L0 ++ K, cl t n p', if cl t n p' = true then p' + 1 else p'))) := hcase
      have HD : Hid ((K.getD 0 (0, 0)).1 = p) := hhd
      clear hcase hhd
      have hbl1 := (hA1.after hbe.fr).2.1
      have hsz1 := hbe.fr.size
      unfold blockV
      rcases HC.out with ⟨rfl, hK64, rfl, hfin⟩ | ⟨rfl, hlast, hfin⟩
      · have HF : Hid (am t n p1 [] = am t n en (L0 ++ K) ∧ K.length = 64) := ⟨hfin, hK64⟩
        clear hfin hK64 HC
        go_wp2_with (at_builtin; refine wpList_append_lies _ rfl (.tmp 99) (.tmp 101) 70 rfl w.heap.size 89 i0 (.agg #[.int .i64 0, .int .i64 0, .slice none 0 0, .slice none 0 0]) 4 64 Try.underlying70 HI.out.1 HI.out.2.1 HI.out.2.2.1 HI.out.2.2.2 rfl (by decide) _ _ _ rfl ((hbl1.alloc _).alloc _) ⟨w1.heap.size + 1, 0, none⟩ 1 1 [.int .i64 (p : Int), .int .i64 (en : Int), .slice (some ⟨tb, p, none⟩) (en - p) (n - p), .slice (some ⟨vb, 0, none⟩) K.length 64] rfl rfl (new2 _ _ _ _ _ _ _) (one4 _ _ _ _ rfl rfl) (by omega) (by unfold maxLen; omega) (by omega) (by rw [World.size_alloc, World.size_alloc]; omega) (w1.heap.size + 2) (by simp) ?_; intro g cap w2 hown hgr hat hlt)
        have hN := hA1.next hbe hgr hown HF.out.2 hpe hpn' HD.out
        clear hown hgr hat hlt hbe hbl1 hA1 hsz1
        go_wp2
        go_roundg (n + 1 - en)
        case measure => have := A.out.1; omega
        case rel => exact ⟨en, L0 ++ K, b + 1, vc1, _, _, _, rfl, by go_num, hpn', by have := HF.out.2; omega, HF.out.1.symm, hN⟩
      · have HF : Hid (am t n p1 [] = (L0 ++ K, cl t n p', if cl t n p' = true then p' + 1 else p') ∧ ∃ K' s, K = K' ++ [(s, en)]) := ⟨hfin, hlast⟩
        clear hfin hlast HC
        obtain ⟨gc, cc, rfl, _, _⟩ := hbe.own.form (by omega)
        have htake : ∀ W : World, Sc W sb tb n t p' → Calls Try.prog 42 #[.pointer (some ⟨sb, 0, none⟩), .int .u8 93] W fun e w' => e = .returned (.bool (cl t n p')) ∧ SameBut sb W w' ∧ Sc w' sb tb n t (if cl t n p' = true then p' + 1 else p') := fun W hW => by
          by_cases hc : p' < n ∧ t p' = 93
          · have e : cl t n p' = true := by simp [cl, hc]
            rw [e, if_pos rfl]
            exact (take_yes sb tb n p' 93 t W hn hc.1 hc.2 hW.at_ hW.text).mono fun _ _ ⟨h1, h2, h3⟩ => ⟨h1, h2, hW.to h2 h3⟩
          · have e : cl t n p' = false := by
              unfold cl
              rw [Bool.and_eq_false_iff, decide_eq_false_iff_not, beq_eq_false_iff_ne]
              by_cases hlt : p' < n
              · exact Or.inr (fun h => hc ⟨hlt, h⟩)
              · exact Or.inl hlt
            rw [e, if_neg (by decide)]
            by_cases hlt : p' < n
            · exact (take_no sb tb n p' 93 t W hlt (fun h => hc ⟨hlt, h⟩) hW.at_ hW.text).mono fun _ _ ⟨h1, h2, h3⟩ => ⟨h1, h2, hW.to h2 h3⟩
            · exact (take_end sb n p' _ 93 W (by omega) hW.at_).mono fun _ _ ⟨h1, h2, h3⟩ => ⟨h1, h2, hW.to h2 h3⟩
        have HT : Hid (∀ W : World, Sc W sb tb n t p' → Calls Try.prog 42 #[.pointer (some ⟨sb, 0, none⟩), .int .u8 93] W fun e w' => e = .returned (.bool (cl t n p')) ∧ SameBut sb W w' ∧ Sc w' sb tb n t (if cl t n p' = true then p' + 1 else p')) := htake
        clear htake
        go_wp2_with (at_builtin; refine wpList_append_lies _ rfl (.tmp 99) (.tmp 101) 70 rfl w.heap.size 89 i0 (.agg #[.int .i64 0, .int .i64 0, .slice none 0 0, .slice none 0 0]) 4 64 Try.underlying70 HI.out.1 HI.out.2.1 HI.out.2.2.1 HI.out.2.2.2 rfl (by decide) _ _ _ rfl ((hbl1.alloc _).alloc _) ⟨w1.heap.size + 1, 0, none⟩ 1 1 [.int .i64 (p : Int), .int .i64 (en : Int), .slice (some ⟨tb, p, none⟩) (en - p) (n - p), .slice (some ⟨vb, 0, none⟩) K.length 64] rfl rfl (new2 _ _ _ _ _ _ _) (one4 _ _ _ _ rfl rfl) (by omega) (by unfold maxLen; omega) (by omega) (by rw [World.size_alloc, World.size_alloc]; omega) (w1.heap.size + 2) (by simp) ?_; intro g cap w2 hown hgr hat hlt)
        obtain ⟨k1, k2, k3, k4, k5, k6, k7⟩ := hA1.push hbe hgr hown
        clear k4 k5 k6 k7
        have x0 := k3.cell (i := 0) (by omega)
        have x1 := k3.frozen 0
        have nsb : w.heap.size ≠ sb := by omega
        go_region_held3 (fun w' => w'.cell? ⟨w.heap.size, 0, none⟩ = some (.slice (some ⟨gc, 0, none⟩) (64 * b + K.length) cc) ∧ w'.frozen? ⟨w.heap.size, 0, none⟩ = false) (first | (go_keep; done) | (simp [*, World.cell?_setCell_same']; done)) ((go_at_call 42; refine (HT.out w2.drew ⟨k2.at_, k2.text⟩).mono ?_; rintro _ w4 ⟨rfl, hs4, hS4⟩; have x2 : w4.cell? ⟨w.heap.size, 0, none⟩ = some (.slice (some ⟨gc, 0, none⟩) (64 * b + K.length) cc) := (World.cell?_of_block (hs4.block _ nsb)).trans x0; have x3 : w4.frozen? ⟨w.heap.size, 0, none⟩ = false := (World.frozen?_of_block (hs4.block _ nsb)).trans x1))
        go_wp2
        rw [HF.out.1]
        refine bodyPost_ret (results32 rfl rfl rfl (World.cell?_setCell_same' _ _ _ (by rw [x2]; rfl))) rfl ?_
        have n1 : sb ≠ w.heap.size := by omega
        have n2 : tb ≠ w.heap.size := by omega
        refine ⟨_, _, _, _, _, _, rfl, hA1.last hbe hgr hown hK0 hK hpe hen HD.out HF.out.2 _ _ _ ?_ ?_ ?_⟩
        · exact ((k1.drew).same hs4 (Or.inl rfl)).set (b := ⟨w.heap.size, 0, none⟩) (Or.inr (Nat.le_refl _)) _
        · exact ⟨hS4.at_.setOther n1 _, hS4.text.setOther n2 _⟩
        · intro k h1 h2
          exact (Below.heap_setCell _ _ _ _ h2).trans (hs4.block k h1)

/-- '(*scanner).array', no blocks from before, computes 'arr'. -/
theorem array_any (sb tb n i : Nat) (t : Nat → Int) (w : World) (hn : n ≤ 1048576) (ht : ∀ k, 0 ≤ t k ∧ t k ≤ 255) (hS : Sc w sb tb n t i) :
    Calls Try.prog 32 #[.pointer (some ⟨sb, 0, none⟩), .slice none 0 0] w (Apost w sb tb n t (arr t n i)) := by
  by_cases h1 : i < n
  · by_cases h2 : t i = 91
    · by_cases h3 : skip t n (i + 1) < n ∧ t (skip t n (i + 1)) = 93
      · rw [arr_empty t n i h1 h2 h3.1 h3.2]
        exact array_empty sb tb n i _ t w hn hS h1 h2 rfl h3.1 h3.2
      · rw [arr_am t n i h1 h2 h3]
        exact array_am sb tb n i _ t w hn ht hS h1 h2 rfl h3
    · rw [arr_no t n i (Or.inr h2)]
      exact array_no sb tb n i t w hS (Or.inr h2)
  · rw [arr_no t n i (Or.inl (by omega))]
    exact array_no sb tb n i t w hS (Or.inl (by omega))

end Go.Proofs.Qxb6603699a
