import Derived.Test.Qxb6603699aBlkDefs
namespace Go.Proofs.Qxb6603699a
open Go.RowKit

set_option maxHeartbeats 2000000 in
set_option maxRecDepth 100000 in
theorem block_any (sb tb n p0 b chb base m0 : Nat) (v0 : Value) (L0 : List (Nat × Nat)) (t : Nat → Int) (w : World) (hn : n ≤ 1048576) (ht : ∀ k, 0 ≤ t k ∧ t k ≤ 255) (hb : b ≤ 1048576) (hm0 : m0 = 64 * b) (hmp : m0 ≤ p0) (hp0 : p0 ≤ n) (hbase : base ≤ w.heap.size)
    (hS : Sc w sb tb n t p0) (hc : w.rowIs chb 28 1 (fun _ => v0)) (ho : w.ownsRow base 3 1 v0 m0 (nums m0)) :
    Calls Try.prog 45 #[.pointer (some ⟨sb, 0, none⟩), .int .i64 b, .slice none 0 0, .pointer (some ⟨chb, 0, none⟩)] w (Bpost w sb tb n t chb base v0 p0 m0 L0) := by
  have g1 := hS.c1
  have hmk := mk87
  have hstart := BS.start hS hc ho
  have nsb := World.new_ne w ⟨sb, 1, none⟩ g1
  have HM0 : Hid (m0 = 64 * b) := hm0
  clear hm0
  obtain ⟨i0, hi0, hz0, hz1, hz2⟩ := info_parts Try.info3
  have HI : Hid (Try.prog.info? 3 = some i0 ∧ i0.zero = some (.int .i64 0) ∧ i0.size = 1 ∧ i0.bytes = 8) := ⟨hi0, hz0, hz1, hz2⟩
  obtain ⟨j0, hj0, yz0, yz1, yz2⟩ := info_parts Try.info94
  have HJ : Hid (Try.prog.info? 94 = some j0 ∧ j0.size = 2) := ⟨hj0, yz1⟩
  clear hi0 hz0 hz1 hz2 hj0 yz0 yz1 yz2
  go_enter Try.func45, Try.ntmps45
  go_wp2
  go_region_held3 (fun w' => w'.cell? ⟨sb, 1, none⟩ = some (.int .i64 p0)) (go_keep) (fail)
  go_wp2
  clear hmk g1 nsb
  go_loopg [9, 11] (n + 1 - p0) (fun g v9 v11 wr => ∃ (p : Nat) (K : List (Nat × Nat)) (vc : Value) (en : Int) (mr : Bool), g = n + 1 - p ∧ v9 = .bool mr ∧ v11 = .int .i64 ((m0 + K.length : Nat) : Int) ∧ p ≤ n ∧ p0 + K.length ≤ p ∧ K.length ≤ 64 ∧ (K.length = 0 ∨ mr = true) ∧ ((K = [] ∧ p = p0) ∨ (0 < K.length ∧ (K.getD 0 (0, 0)).1 = p0)) ∧ am t n p (L0 ++ K) = am t n p0 L0 ∧
      BS w wr sb tb n t chb w.heap.size (w.heap.size + 1) base v0 p0 p K (m0 + K.length) vc en (.slice none 0 0))
  case atStart => exact ⟨p0, [], v0, 0, false, rfl, rfl, by have := HM0.out; go_num, hp0, by simp, by simp, Or.inl rfl, Or.inl ⟨rfl, rfl⟩, by simp, hstart⟩
  case round =>
    obtain ⟨p, K, vc, en, mr, hg, rfl, rfl, hpn, hpK, hK, hmr, hhd, hEq, hBS⟩ := hrel
    have A : Aside (gk = n + 1 - p ∧ am t n p (L0 ++ K) = am t n p0 L0 ∧ (K.length = 0 ∨ mr = true)) := ⟨hg, hEq, hmr⟩
    have HH : Hid ((K = [] ∧ p = p0) ∨ (0 < K.length ∧ (K.getD 0 (0, 0)).1 = p0)) := hhd
    clear hg hEq hmr hhd hstart
    have x0 := hBS.b0
    have x3 := hBS.b3
    have x4 := hBS.sc.c1
    have x5 := hBS.c0
    by_cases hk : K.length < 64
    · have hz : (K.length : Int) < 64 := by omega
      have qn := q22n
      go_wp2_with (go_at_call 50; refine (vmText_nil (m0 + K.length) _ (by omega)).mono ?_; rintro e w' ⟨rfl, hw⟩; subst w')
      go_quiet (fail)
      have hB1 := hBS.drewN nq
      generalize wr.drewN nq = wq at hB1 ⊢
      clear hBS x0 x3 x4 x5 qn
      go_wp2_with fail
      have hb1 := valF_bd t n p hpn
      have hfail := am_fail t n p (L0 ++ K) hpn
      have hmore := am_more t n p (L0 ++ K) hpn
      have hclose := am_close t n p (L0 ++ K) hpn
      have hlast := am_last t n p (L0 ++ K) hpn
      rw [A.out.2.1] at hfail hmore hclose hlast
      refine (value_any sb tb n p t _ hn ht hpn hB1.sc).mono ?_
      obtain ⟨ok, e, hv⟩ : ∃ ok e, valF t n p = (ok, e) := ⟨_, _, rfl⟩
      rw [hv] at hb1 hfail hmore hclose hlast ⊢
      clear hv
      rintro _ w1 ⟨rfl, hs1, hS1⟩
      have hB2 := hB1.move hs1 hS1
      clear hs1 hS1 hB1
      cases ok with
      | false =>
        have HF : Hid (am t n p0 L0 = ([], false, e)) := hfail rfl
        clear hb1 hfail hmore hclose hlast
        have y0 := hB2.b0
        have y1 := hB2.b1
        have y2 := hB2.b2
        have y3 := hB2.b3
        have f0 := hB2.box.frozen 0
        have f1 := hB2.box.frozen 1
        have f2 := hB2.box.frozen 2
        have f3 := hB2.box.frozen 3
        go_wp2
        refine bodyPost_ret (results45 rfl rfl rfl (box_all hB2.box _ _ _ _)) rfl ?_
        have hE := hB2.boxed (.int .i64 0) (.int .i64 0) (.slice none 0 0) (.slice none 0 0)
        exact Or.inl ⟨e, vc, HF.out, rfl, hE.fr, hE.sc, hE.ch⟩
      | true =>
        have hpe := hb1.2 rfl
        have hen : e ≤ n := hb1.1
        replace hmore := hmore rfl
        replace hclose := hclose rfl
        replace hlast := hlast rfl
        have HM : Hid (skip t n e < n → t (skip t n e) = 44 → am t n p0 L0 = am t n (skip t n (skip t n e + 1)) (L0 ++ K ++ [(p, e)])) := hmore
        have HC : Hid (skip t n e < n → t (skip t n e) = 93 → am t n p0 L0 = (L0 ++ K ++ [(p, e)], true, skip t n e + 1)) := hclose
        have HL : Hid (¬ (skip t n e < n ∧ (t (skip t n e) = 44 ∨ t (skip t n e) = 93)) → am t n p0 L0 = (L0 ++ K ++ [(p, e)], false, skip t n e)) := hlast
        clear hb1 hfail hmore hclose hlast
        have x5 := hB2.c0
        have hsz := hB2.fr.size
        go_wp2_with (at_builtin; refine wpList_append_lies _ rfl (.tmp 64) (.tmp 66) 28 rfl base 3 i0 (.int .i64 0) 1 8 Try.underlying28 HI.out.1 HI.out.2.1 HI.out.2.2.1 HI.out.2.2.2 rfl (by decide) _ _ _ rfl (hB2.own.alloc _) ⟨w1.heap.size, 0, none⟩ 1 1 [.int .i64 ((m0 : Int) + (K.length : Int))] rfl rfl (cell_one_new _ _ _) (one_int _ _) (by omega) (by unfold maxLen; omega) (by omega) (by rw [World.size_alloc]; omega) (w1.heap.size + 1) (by simp) ?_; intro g c w2 hown hgr hat hlt; have z5 := (hB2.chKept hgr).cell (i := 0) (by omega); have z6 := (hB2.chKept hgr).frozen 0)
        have hB3 := hB2.push hgr hat hown
        clear hown hgr hat hlt z5 z6 hB2 x5 hsz
        generalize w2.setCell ⟨chb, 0, none⟩ (.slice (some ⟨g, 0, none⟩) (m0 + K.length + 1) c) = w3 at hB3 ⊢
        generalize Value.slice (some ⟨g, 0, none⟩) (m0 + K.length + 1) c = vc' at hB3
        have y0 := hB3.b0
        have y3 := hB3.b3
        have y4 := hB3.sc.c1
        have f3 := hB3.box.frozen 3
        have n1 : w.heap.size + 1 ≠ sb := fun e => tag_ne hB3.vms hB3.sc.at_ (by decide) e
        have n2 : w.heap.size ≠ sb := fun e => tag_ne hB3.box hB3.sc.at_ (by decide) e
        have hv0 : ∀ o, (w3.alloc o).cell? ⟨w.heap.size + 1, K.length * 2, none⟩ = some (.int .i64 0) := fun o => by
          rw [(hB3.alloc o).vms.cell (i := K.length * 2) (by omega)]
          simp [spc, Nat.mul_comm]
        have hv1 : ∀ o, (w3.alloc o).cell? ⟨w.heap.size + 1, K.length * 2 + 1, none⟩ = some (.int .i64 0) := fun o => by
          rw [(hB3.alloc o).vms.cell (i := K.length * 2 + 1) (by omega)]
          unfold spc
          rw [if_neg (by omega)]
        have hf0 : ∀ o j, (w3.alloc o).frozen? ⟨w.heap.size + 1, j, none⟩ = false := fun o j => (hB3.alloc o).vms.frozen j
        have hbx0 : ∀ o, (w3.alloc o).cell? ⟨w.heap.size, 3, none⟩ = some (.slice (some ⟨w.heap.size + 1, 0, none⟩) K.length 64) := fun o => (hB3.alloc o).b3
        have hbf0 : ∀ o, (w3.alloc o).frozen? ⟨w.heap.size, 3, none⟩ = false := fun o => (hB3.alloc o).box.frozen 3
        have hb00 : ∀ o, (w3.alloc o).cell? ⟨w.heap.size, 0, none⟩ = some (.int .i64 p0) := fun o => (hB3.alloc o).b0
        have hs00 : ∀ o, (w3.alloc o).cell? ⟨sb, 1, none⟩ = some (.int .i64 e) := fun o => (hB3.alloc o).sc.c1
        have hwp : IntKind.i64.wrap ((p : Int) - (p0 : Int)) = (p : Int) - (p0 : Int) := wrap_small _ (by omega) (by omega)
        have hwe : IntKind.i64.wrap ((e : Int) - (p0 : Int)) = (e : Int) - (p0 : Int) := wrap_small _ (by omega) (by omega)
        have hroom : K.length + 1 ≤ 64 := by omega
        go_region
        have hB4 := hB3.span p e (.cells #[.int .i64 ((p : Int) - (p0 : Int)), .int .i64 ((e : Int) - (p0 : Int))] 94)
        generalize ((((w3.alloc (.cells #[.int .i64 ((p : Int) - (p0 : Int)), .int .i64 ((e : Int) - (p0 : Int))] 94)).setCell ⟨w.heap.size + 1, K.length * 2, none⟩ (.int .i64 ((p : Int) - (p0 : Int)))).setCell ⟨w.heap.size + 1, K.length * 2 + 1, none⟩ (.int .i64 ((e : Int) - (p0 : Int)))).setCell ⟨w.heap.size, 3, none⟩ (.slice (some ⟨w.heap.size + 1, 0, none⟩) (K.length + 1) 64)) = w4 at hB4 ⊢
        clear hB3 y0 y3 y4 f3 hv0 hv1 hf0 hbx0 hbf0 hb00 hs00 hwp hwe
        have y1 := hB4.b1
        have f1 := hB4.box.frozen 1
        have y4 := hB4.sc.c1
        go_wp2_with fail
        have hB5 := hB4.setEnd e
        generalize w4.setCell ⟨w.heap.size, 1, none⟩ (.int .i64 (e : Int)) = w5 at hB5 ⊢
        clear hB4 y1 f1 y4
        refine (space_any sb tb n e t _ hn hen (by exact hB5.drew.sc)).mono ?_
        obtain ⟨q, hqe⟩ : ∃ q, skip t n e = q := ⟨_, rfl⟩
        have hsk := skip_bd t n e hen
        rw [hqe] at HM HC HL hsk ⊢
        clear hqe
        rintro _ w6 ⟨rfl, hs6, hS6⟩
        have hB6 := hB5.drew.move hs6 hS6
        clear hs6 hS6 hB5
        go_wp2_with fail
        obtain ⟨K1, hK1⟩ : ∃ K1, K ++ [(p, e)] = K1 := ⟨_, rfl⟩
        have hl1 : K1.length = K.length + 1 := by rw [← hK1]; simp
        have HK : Hid (K1 = K ++ [(p, e)] ∧ K1.length = K.length + 1) := ⟨hK1.symm, hl1⟩
        have HH1 : Hid ((K1.getD 0 (0, 0)).1 = p0) := by
          show (K1.getD 0 (0, 0)).1 = p0
          rw [← hK1]
          rcases HH.out with ⟨h1, h2⟩ | ⟨h1, h2⟩
          · subst h1; exact h2
          · rw [List.getD_eq_getElem?_getD, List.getElem?_append_left h1, ← List.getD_eq_getElem?_getD]; exact h2
        rw [hK1, show m0 + K.length + 1 = m0 + K1.length by omega] at hB6
        rw [List.append_assoc, hK1] at HM HC HL
        clear hK1 hl1
        by_cases hcm : q < n ∧ t q = 44
        · replace HM : Hid (am t n p0 L0 = am t n (skip t n (q + 1)) (L0 ++ K1)) := HM.out hcm.1 hcm.2
          clear HC HL
          refine (take_yes sb tb n q 44 t _ hn hcm.1 hcm.2 hB6.sc.at_ hB6.sc.text).mono ?_
          rintro _ w7 ⟨rfl, hs7, hr7⟩
          have hB7 := hB6.move hs7 (hB6.sc.to hs7 hr7)
          clear hs7 hr7 hB6
          have hqn := hcm.1
          clear hcm
          go_wp2_with fail
          refine (space_any sb tb n (q + 1) t _ hn (by omega) hB7.sc).mono ?_
          obtain ⟨p', hpe'⟩ : ∃ p', skip t n (q + 1) = p' := ⟨_, rfl⟩
          have hsk' := skip_bd t n (q + 1) (by omega)
          rw [hpe'] at HM hsk' ⊢
          clear hpe'
          rintro _ w8 ⟨rfl, hs8, hS8⟩
          have hB8 := hB7.move hs8 hS8
          clear hs8 hS8 hB7
          go_wp2
          go_roundg (n + 1 - p')
          case measure => have := A.out.1; omega
          case rel =>
            have hl1 := HK.out.2
            exact ⟨p', K1, vc', e, true, rfl, rfl, by rw [hl1]; go_num, by omega, by omega, by omega, Or.inr rfl, Or.inr ⟨by omega, HH1.out⟩, HM.out.symm, hB8⟩
        · have htake : ∀ W : World, Sc W sb tb n t q → Calls Try.prog 42 #[.pointer (some ⟨sb, 0, none⟩), .int .u8 44] W fun e w' => e = .returned (.bool false) ∧ SameBut sb W w' ∧ w'.rowIs sb 66 2 (scv (.slice (some ⟨tb, 0, none⟩) n n) q) := fun W hW => by
            by_cases hlt : q < n
            · exact take_no sb tb n q 44 t W hlt (fun h => hcm ⟨hlt, h⟩) hW.at_ hW.text
            · exact take_end sb n q _ 44 W (by omega) hW.at_
          have HF : Hid (am t n p0 L0 = (L0 ++ K1, cl t n q, if cl t n q = true then q + 1 else q)) := by
            show am t n p0 L0 = (L0 ++ K1, cl t n q, if cl t n q = true then q + 1 else q)
            by_cases h93 : q < n ∧ t q = 93
            · have : cl t n q = true := by simp [cl, h93]
              rw [HC.out h93.1 h93.2, this, if_pos rfl]
            · have : cl t n q = false := by
                unfold cl
                rw [Bool.and_eq_false_iff, decide_eq_false_iff_not, beq_eq_false_iff_ne]
                by_cases hlt : q < n
                · exact Or.inr (fun h => h93 ⟨hlt, h⟩)
                · exact Or.inl hlt
              rw [HL.out (fun h => by rcases h.2 with h2 | h2; exact hcm ⟨h.1, h2⟩; exact h93 ⟨h.1, h2⟩), this, if_neg (by decide)]
          clear HM HC HL
          refine (htake _ hB6.sc).mono ?_
          clear htake hcm
          rintro _ w7 ⟨rfl, hs7, hr7⟩
          have hB7 := hB6.move hs7 (hB6.sc.to hs7 hr7)
          clear hs7 hr7 hB6
          have z0 := hB7.b0
          have z1 := hB7.b1
          have z2 := hB7.b2
          have z4 := hB7.sc.c0
          have f2 := hB7.box.frozen 2
          have hl1 := HK.out.2
          have hpz : (p0 : Int) ≤ (e : Int) := by omega
          have hez : (e : Int) ≤ (n : Int) := by omega
          have hnp : ¬ n = p0 := by omega
          clear hl1
          go_wp2
          go_region
          have hB8 := hB7.setText (.slice (some ⟨tb, p0, none⟩) (e - p0) (n - p0))
          generalize w7.setCell ⟨w.heap.size, 2, none⟩ (.slice (some ⟨tb, p0, none⟩) (e - p0) (n - p0)) = w8 at hB8 ⊢
          clear hB7 z0 z1 z2 z4 f2
          have y0 := hB8.b0
          have y1 := hB8.b1
          have y2 := hB8.b2
          have y3 := hB8.b3
          have f0 := hB8.box.frozen 0
          have f1 := hB8.box.frozen 1
          have f2 := hB8.box.frozen 2
          have f3 := hB8.box.frozen 3
          go_wp2
          refine bodyPost_ret (results45 rfl rfl rfl (box_all hB8.drew.box _ _ _ _)) rfl ?_
          have hE := hB8.drew.boxed (.int .i64 (p0 : Int)) (.int .i64 (e : Int)) (.slice (some ⟨tb, p0, none⟩) (e - p0) (n - p0)) (.slice (some ⟨w.heap.size + 1, 0, none⟩) K1.length 64)
          have hl1 := HK.out.2
          exact Or.inr ⟨K1, false, q, e, w.heap.size + 1, vc', rfl, by omega, by omega, by omega, hen, by omega, by omega, HH1.out, hE, Or.inr ⟨rfl, ⟨K, p, HK.out.1⟩, HF.out⟩⟩
    · obtain rfl : mr = true := by rcases A.out.2.2 with h | h; omega; exact h
      have hK64 : K.length = 64 := by omega
      have H64 : Hid (K.length = 64) := hK64
      have hk' : ¬ (K.length : Int) < 64 := by omega
      clear hK64
      have y1 := hBS.b1
      have f1 := hBS.box.frozen 1
      go_wp2
      have hB7 := hBS.setEnd p
      generalize wr.setCell ⟨w.heap.size, 1, none⟩ (.int .i64 (p : Int)) = w7 at hB7 ⊢
      clear hBS y1 f1 x0 x3 x4 x5
      have z0 := hB7.b0
      have z1 := hB7.b1
      have z2 := hB7.b2
      have z4 := hB7.sc.c0
      have f2 := hB7.box.frozen 2
      have hpz : (p0 : Int) ≤ (p : Int) := by omega
      have hez : (p : Int) ≤ (n : Int) := by omega
      have hnp : ¬ n = p0 := by have := H64.out; omega
      go_region
      have hB8 := hB7.setText (.slice (some ⟨tb, p0, none⟩) (p - p0) (n - p0))
      generalize w7.setCell ⟨w.heap.size, 2, none⟩ (.slice (some ⟨tb, p0, none⟩) (p - p0) (n - p0)) = w8 at hB8 ⊢
      clear hB7 z0 z1 z2 z4 f2
      have y0 := hB8.b0
      have y1 := hB8.b1
      have y2 := hB8.b2
      have y3 := hB8.b3
      have f0 := hB8.box.frozen 0
      have f1 := hB8.box.frozen 1
      have f2 := hB8.box.frozen 2
      have f3 := hB8.box.frozen 3
      go_wp2
      refine bodyPost_ret (results45 rfl rfl rfl (box_all hB8.drew.box _ _ _ _)) rfl ?_
      have hE := hB8.drew.boxed (.int .i64 (p0 : Int)) (.int .i64 (p : Int)) (.slice (some ⟨tb, p0, none⟩) (p - p0) (n - p0)) (.slice (some ⟨w.heap.size + 1, 0, none⟩) K.length 64)
      have h64 := H64.out
      exact Or.inr ⟨K, true, p, p, w.heap.size + 1, vc, rfl, by omega, by omega, by omega, hpn, hpn, hpK, (by rcases HH.out with ⟨h1, _⟩ | ⟨_, h2⟩; rw [h1] at h64; simp at h64; exact h2), hE, Or.inl ⟨rfl, h64, rfl, A.out.2.1.symm⟩⟩

end Go.Proofs.Qxb6603699a
