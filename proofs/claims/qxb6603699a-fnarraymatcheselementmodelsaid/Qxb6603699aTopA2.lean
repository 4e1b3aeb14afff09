import Derived.Test.Qxb6603699aTopA1
namespace Go.Proofs.Qxb6603699a
open Go.RowKit

set_option maxHeartbeats 400000 in
set_option maxRecDepth 100000 in
theorem topA_big (a : Option Addr) (n c : Nat) (i : Int) (w : World) (h : 1048576 < n) :
    Calls Try.prog 4 #[.slice a n c, .int .i64 i] w fun e w' => e = .returned (.bool true) ∧ Below w.heap.size w w' := by
  go_enter Try.func4, Try.ntmps4
  go_wp2_with (go_at_call 11; refine (zzBytesA_no a n c i _ h).mono ?_; rintro e w' ⟨rfl, rfl⟩)
  go_ret
  exact ⟨rfl, Below.refl _ _⟩

set_option maxHeartbeats 400000 in
set_option maxRecDepth 100000 in
theorem topA_lo (a : Option Addr) (n c : Nat) (i : Int) (w : World) (h : n ≤ 1048576) (hi : i < 0) :
    Calls Try.prog 4 #[.slice a n c, .int .i64 i] w fun e w' => e = .returned (.bool true) ∧ Below w.heap.size w w' := by
  go_enter Try.func4, Try.ntmps4
  go_wp2_with (go_at_call 11; refine (zzBytesA_yes a n c i _ h).mono ?_; rintro e w' ⟨rfl, rfl⟩)
  go_ret
  exact ⟨rfl, Below.refl _ _⟩

set_option maxHeartbeats 1000000 in
set_option maxRecDepth 100000 in
theorem topA_nil (i : Nat) (w : World) :
    Calls Try.prog 4 #[.slice none 0 0, .int .i64 i] w fun e w' => e = .returned (.bool true) ∧ Below w.heap.size w w' := by
  have h1 : ¬ (i : Int) < 0 := by omega
  go_enter Try.func4, Try.ntmps4
  go_wp2_with (first | (go_at_call 11; refine (zzBytesA_yes none 0 0 i _ (by omega)).mono ?_; rintro e w' ⟨rfl, hw⟩; subst w') | (go_at_call 8; refine (clone_nil _).mono ?_; rintro e w' ⟨rfl, hw⟩; subst w') | (go_at_call 12; refine (zzArray_nil i _).mono ?_; rintro e w1 ⟨rfl, hb⟩))
  refine (arrModel_no none 0 0 i _ (Nat.zero_le _)).mono ?_
  rintro _ w2 ⟨sv, ev, rfl, hA⟩
  obtain ⟨a1, c1, g1, rfl, _, _⟩ := own_view hA.s
  obtain ⟨a2, c2, g2, rfl, _, _⟩ := own_view hA.e
  have hbb : Below w.heap.size w w2 := hb.trans (hA.below.mono hb.size)
  unfold ret4
  clear hA hb
  go_wp2
  go_loopg [14] 0 (fun _ v wr => v = .int .i64 0 ∧ wr = w2)
  case atStart => exact ⟨rfl, rfl⟩
  case round =>
    obtain ⟨rfl, rfl⟩ := hrel
    go_wp2
    go_loopg [16] 0 (fun _ v wx => v = .int .i64 0 ∧ wx = wr)
    case atStart => exact ⟨rfl, rfl⟩
    case round =>
      obtain ⟨rfl, rfl⟩ := hrel
      go_wp2
      go_ret
      exact ⟨rfl, hbb⟩


theorem box4 (a b c d : Value) : ∀ k, k < #[a, b, c, d].size → #[a, b, c, d][k]? = some (bkc a b c d k) := by
  intro k hk
  match k, hk with
  | 0, _ => rfl
  | 1, _ => rfl
  | 2, _ => rfl
  | 3, _ => rfl

set_option maxHeartbeats 2000000 in
set_option maxRecDepth 100000 in
theorem topA_some (b off : Nat) (sp : Option _) (n cp i : Nat) (t : Nat → Int) (w : World) (hn : n ≤ 1048576) (ht : ∀ k, 0 ≤ t k ∧ t k ≤ 255) (hc : ∀ k, k < n → sp = none ∧ w.cell? ⟨b, off + k, none⟩ = some (.int .u8 (t k))) :
    Calls Try.prog 4 #[.slice (some ⟨b, off, sp⟩) n cp, .int .i64 i] w fun e w' => e = .returned (.bool true) ∧ Below w.heap.size w w' := by
  have HC : Hid (∀ k, k < n → sp = none ∧ w.cell? ⟨b, off + k, none⟩ = some (.int .u8 (t k))) := hc
  have HT : Hid (∀ k, 0 ≤ t k ∧ t k ≤ 255) := ht
  clear hc ht
  have h1 : ¬ (i : Int) < 0 := by omega
  have hd1 : decide ((i : Int) < 0) = false := by simp
  have hd0 : decide ((1048576 : Int) < (n : Int)) = false := by simp; omega
  go_enter Try.func4, Try.ntmps4
  go_wp2_with (first | (go_at_call 11; refine (zzBytesA_yes _ n cp i _ hn).mono ?_; rintro e w' ⟨rfl, hw⟩; subst w') | (go_at_call 8; refine (clone_any b off sp n cp t _ hn HC.out).mono ?_; rintro e w1 ⟨rfl, hcl⟩))
  have hrow : w1.rowIs w.heap.size 5 n (fun k => .int .u8 (t k)) := hcl.row.congr (fun k hk => by rw [if_pos hk])
  have hbd := arr_bd t n i
  refine (zzArray_any w.heap.size n i t w1 hn HT.out hrow (by omega)).mono ?_
  have hmod := fun w2 => arrModel_any w.heap.size n n i t w2 hn
  obtain ⟨r, hr⟩ : ∃ r, arr t n i = r := ⟨_, rfl⟩
  rw [hr] at hbd hmod ⊢
  clear hr
  obtain ⟨L, ok, at_⟩ := r
  rintro _ w2 ⟨oa, N, nb, cv, St, En, rfl, hb2, hcv, hnb, hoa, hst, hen, hne, hz⟩
  have hrow2 : w2.rowIs w.heap.size 5 n (fun k => .int .u8 (t k)) := hrow.of_block (hb2.block _ hrow.lt)
  have HNB : Hid (nb = (L.length + 63) / 64) := hnb
  clear hnb
  have HM : Hid (Calls Try.prog 13 #[.slice (some ⟨w.heap.size, 0, none⟩) n n, .int .i64 i] w2 (AMpost w2 (L, ok, at_))) := hmod w2 hrow2
  clear hmod
  go_wp2_with fail
  refine HM.out.mono ?_
  rintro _ w3 ⟨sv, ev, rfl, hA⟩
  have hcv3 : w3.ownsRow w1.heap.size 3 1 cv L.length (nums L.length) := own_of_block hcv (fun g hg => hA.below.block g (hcv.lt g hg).2)
  obtain ⟨ca, cc, gc, rfl, hca, hcc⟩ := own_view hcv3
  obtain ⟨sa, sc, gs, rfl, hsa, hsc⟩ := own_view hA.s
  obtain ⟨ea, ec, ge, rfl, hea, hec⟩ := own_view hA.e
  have hrow3 : w3.rowIs w.heap.size 5 n (fun k => .int .u8 (t k)) := hrow2.of_block (hA.below.block _ hrow2.lt)
  have hz3 : ZO w3 N nb w.heap.size n St En (fun c => (part L c).length) (fun c j => spv (St c) (part L c) j) :=
    ⟨fun j hj => (hA.below.cell (p := ⟨N, j, none⟩) (World.block_lt_of_cell? _ _ (hz.top j hj))).trans (hz.top j hj), fun d hd j hj => (hA.below.cell (p := ⟨N + 1 + d, j, none⟩) (World.block_lt_of_cell? _ _ (hz.done d hd j hj))).trans (hz.done d hd j hj)⟩
  have hF := TF.mk' hrow3 hbd.1 hbd.2 hcc hsc hec HNB.out hst hen hne hz3
  have hbb : Below w.heap.size w w3 := (hcl.below.trans (hb2.mono hcl.below.size)).trans (hA.below.mono (Nat.le_trans hcl.below.size hb2.size))
  have HX : Hid (Below w.heap.size w w3 ∧ (0 < nb → oa = some ⟨N, 0, none⟩) ∧ (0 < L.length → ca = some ⟨gc, 0, none⟩ ∧ gc < w3.heap.size) ∧ (0 < L.length → sa = some ⟨gs, 0, none⟩ ∧ gs < w3.heap.size) ∧ (0 < L.length → ea = some ⟨ge, 0, none⟩ ∧ ge < w3.heap.size)) := ⟨hbb, hoa, hca, hsa, hea⟩
  clear hcv3 hcv hcc hsc hec hst hen hne hz hz3 hA hb2 hrow hrow2 hrow3 hcl HM hbd hbb hoa hca hsa hea HNB
  unfold ret4
  generalize fstAt L = S at hF
  generalize sndAt L = E at hF
  generalize (fun c => (part L c).length) = kn at hF
  generalize L.length = m at hF HX ⊢
  have hmn := hF.mn
  have HNZ : Hid (((m : Int) + 63) / 64 = (nb : Int)) := by show ((m : Int) + 63) / 64 = (nb : Int); have := hF.cnt; omega
  go_wp2
  go_loopg [14] m (fun g v wr => ∃ k : Nat, g = m - k ∧ v = .int .i64 (k : Int) ∧ k ≤ m ∧ wr = w3)
  case atStart => exact ⟨0, rfl, rfl, Nat.zero_le _, rfl⟩
  case round =>
    obtain ⟨k, hg, rfl, hk, hw⟩ := hrel
    subst wr
    have A : Aside (gk = m - k) := hg
    clear hg
    by_cases hkm : k < m
    · obtain ⟨rfl, _⟩ := HX.out.2.2.1 (by omega)
      have x0 := hF.ch k hkm
      have hz : (k : Int) < (m : Int) := by omega
      go_wp2
      go_roundg (m - (k + 1))
      case measure => have := A.out; omega
      case rel => exact ⟨k + 1, rfl, by go_num, by omega, rfl⟩
    · have hz : ¬ (k : Int) < (m : Int) := by omega
      have hnbz := HNZ.out
      go_wp2
      clear hnbz
      go_loopg [16] nb (fun g v wr => ∃ c : Nat, g = nb - c ∧ v = .int .i64 (c : Int) ∧ c ≤ nb ∧ Below w3.heap.size w3 wr)
      case atStart => exact ⟨0, rfl, rfl, Nat.zero_le _, Below.refl _ _⟩
      case round =>
        obtain ⟨c, hg, rfl, hcn, hB⟩ := hrel
        have A : Aside (gk = nb - c) := hg
        clear hg
        by_cases hlt : c < nb
        · have hcm : c * 64 < m := by have := hF.cnt; omega
          have F := hF.below hB
          obtain rfl := HX.out.2.1 (by omega)
          obtain ⟨rfl, _⟩ := HX.out.2.2.2.1 (by omega)
          obtain ⟨rfl, _⟩ := HX.out.2.2.2.2 (by omega)
          have hz1 : (c : Int) < (nb : Int) := by omega
          have x0 := F.st (c * 64) hcm
          have x1 := F.en (m - 1) (by omega)
          have y0 := F.b0 c hlt
          have y1 := F.b1 c hlt
          have y2 := F.b2 c hlt
          have y3 := F.b3 c hlt
          have hle := F.le c hlt
          have hkc := F.kc c hlt
          have hec := F.ec c hlt
          have hcnt := F.cnt
          have hsb := F.sb
          have s0 := F.s0 c hlt
          have s1 := F.s1 c hlt
          have hS : ∀ k, k < m → wr.cell? ⟨gs, k, none⟩ = some (.int .i64 (S k : Int)) := F.st
          have hE : ∀ k, k < m → wr.cell? ⟨ge, k, none⟩ = some (.int .i64 (E k : Int)) := F.en
          have hT := F.text
          have HC2 : Hid (nb = (m + 63) / 64 ∧ kn c = if c * 64 + 64 ≤ m then 64 else m - c * 64) := ⟨hcnt, hkc⟩
          have HSB : Hid (∀ k, k < m → S k ≤ n ∧ E k ≤ n) := hsb
          have HS0 : Hid (∀ k, k < kn c → wr.cell? ⟨N + 1 + c, k * 2, none⟩ = some (.int .i64 ((S (c * 64 + k) : Int) - (S (c * 64) : Int)))) := s0
          have HS1 : Hid (∀ k, k < kn c → wr.cell? ⟨N + 1 + c, k * 2 + 1, none⟩ = some (.int .i64 ((E (c * 64 + k) : Int) - (S (c * 64) : Int)))) := s1
          have HSS : Hid (∀ k, k < m → wr.cell? ⟨gs, k, none⟩ = some (.int .i64 (S k : Int))) := hS
          have HEE : Hid (∀ k, k < m → wr.cell? ⟨ge, k, none⟩ = some (.int .i64 (E k : Int))) := hE
          clear hcnt hkc hsb s0 s1 hS hE
          have hnbb : nb ≤ 1048576 := by have := HC2.out.1; omega
          have hpS : (S (c * 64) : Int) ≤ (En c : Int) := by omega
          have hpE : (En c : Int) ≤ (n : Int) := by omega
          have hnS : ¬ n = S (c * 64) := by omega
          have hcellT : ∀ (wx : World), Below wr.heap.size wr wx → ∀ j, j < En c - S (c * 64) → wx.cell? ⟨w.heap.size, S (c * 64) + j, none⟩ = some (.int .u8 (t (S (c * 64) + j))) := fun wx hx j hj => (hx.cell (p := ⟨w.heap.size, S (c * 64) + j, none⟩) hT.lt).trans (hT.cell (by omega))
          have HCT : Hid (∀ (wx : World), Below wr.heap.size wr wx → ∀ j, j < En c - S (c * 64) → wx.cell? ⟨w.heap.size, S (c * 64) + j, none⟩ = some (.int .u8 (t (S (c * 64) + j)))) := hcellT
          clear hcellT hT
          by_cases hi1 : c + 1 < nb
          · have hz2 : (c : Int) < (nb : Int) - 1 := by omega
            have hz3 : ¬ (m : Int) - 1 < (c : Int) * 64 + 63 := by have := HC2.out.1; omega
            have hz4 : (0 : Int) ≤ (c : Int) * 64 + 64 ∧ (c : Int) * 64 + 64 < (m : Int) := by have := HC2.out.1; omega
            have hkb : ((kn c : Int) != (c : Int) * 64 + 63 - (c : Int) * 64 + 1) = false := by
              have := HC2.out
              rw [if_pos (by omega)] at this
              rw [this.2]
              simp
              omega
            have x2 := F.st (c * 64 + 64) (by have := HC2.out.1; omega)
            rw [if_pos hi1] at hec
            rw [← hec] at x2
            clear F hec
            go_wp2
            have hBA : Below wr.heap.size wr (wr.alloc (.cells #[.int .i64 (S (c * 64) : Int), .int .i64 (En c : Int), .slice (some ⟨w.heap.size, S (c * 64), none⟩) (En c - S (c * 64)) (n - S (c * 64)), .slice (some ⟨N + 1 + c, 0, none⟩) (kn c) (kn c)] 35)) := (Below.refl _ _).alloc (Nat.le_refl _) _
            have hRA := World.rowIs_alloc wr #[.int .i64 (S (c * 64) : Int), .int .i64 (En c : Int), .slice (some ⟨w.heap.size, S (c * 64), none⟩) (En c - S (c * 64)) (n - S (c * 64)), .slice (some ⟨N + 1 + c, 0, none⟩) (kn c) (kn c)] 35 (bkc (.int .i64 (S (c * 64) : Int)) (.int .i64 (En c : Int)) (.slice (some ⟨w.heap.size, S (c * 64), none⟩) (En c - S (c * 64)) (n - S (c * 64))) (.slice (some ⟨N + 1 + c, 0, none⟩) (kn c) (kn c))) (box4 _ _ _ _)
            have hsA : (wr.alloc (.cells #[.int .i64 (S (c * 64) : Int), .int .i64 (En c : Int), .slice (some ⟨w.heap.size, S (c * 64), none⟩) (En c - S (c * 64)) (n - S (c * 64)), .slice (some ⟨N + 1 + c, 0, none⟩) (kn c) (kn c)] 35)).heap.size = wr.heap.size + 1 := World.size_alloc _ _
            have HSA : Hid ((wr.alloc (.cells #[.int .i64 (S (c * 64) : Int), .int .i64 (En c : Int), .slice (some ⟨w.heap.size, S (c * 64), none⟩) (En c - S (c * 64)) (n - S (c * 64)), .slice (some ⟨N + 1 + c, 0, none⟩) (kn c) (kn c)] 35)).heap.size = wr.heap.size + 1) := hsA
            clear hsA
            generalize wr.alloc (.cells #[.int .i64 (S (c * 64) : Int), .int .i64 (En c : Int), .slice (some ⟨w.heap.size, S (c * 64), none⟩) (En c - S (c * 64)) (n - S (c * 64)), .slice (some ⟨N + 1 + c, 0, none⟩) (kn c) (kn c)] 35) = wA at hBA hRA HSA ⊢
            clear x0 x1 x2 y0 y1 y2 y3
            have r2 : wA.cell? ⟨wr.heap.size, 2, none⟩ = some (.slice (some ⟨w.heap.size, S (c * 64), none⟩) (En c - S (c * 64)) (n - S (c * 64))) := hRA.cell (i := 2) (by show 2 < 4; omega)
            have r3 : wA.cell? ⟨wr.heap.size, 3, none⟩ = some (.slice (some ⟨N + 1 + c, 0, none⟩) (kn c) (kn c)) := hRA.cell (i := 3) (by show 3 < 4; omega)
            go_quiet ((go_at_call 14; exact Calls.quiet_of (equalBytes_yes w.heap.size (S (c * 64)) (n - S (c * 64)) w.heap.size (S (c * 64)) (n - S (c * 64)) (En c - S (c * 64)) (fun j => t (S (c * 64) + j)) _ (by omega) (HCT.out _ ⟨hBA.os, hBA.tape, hBA.output, hBA.size, hBA.block⟩) (HCT.out _ ⟨hBA.os, hBA.tape, hBA.output, hBA.size, hBA.block⟩))))
            go_wp2
            have hB2 : Below w3.heap.size w3 (wA.drewN nq) := (hB.trans (hBA.mono hB.size)).trans ⟨rfl, rfl, rfl, Nat.le_refl _, fun _ _ => rfl⟩
            have hBB : Below (wr.heap.size + 1) (wA.drewN nq) (wA.drewN nq) := Below.refl _ _
            have r3' : (wA.drewN nq).cell? ⟨wr.heap.size, 3, none⟩ = some (.slice (some ⟨N + 1 + c, 0, none⟩) (kn c) (kn c)) := r3
            have hold : ∀ {a : Addr} {v : Value}, wr.cell? a = some v → (wA.drewN nq).cell? a = some v ∧ a.block < wr.heap.size := fun hc => ⟨(hBA.cell (World.block_lt_of_cell? _ _ hc)).trans hc, World.block_lt_of_cell? _ _ hc⟩
            have HOLD : Hid (∀ {a : Addr} {v : Value}, wr.cell? a = some v → (wA.drewN nq).cell? a = some v ∧ a.block < wr.heap.size) := hold
            clear hold r2 r3 hRA HSA
            generalize wA.drewN nq = wB at hB2 hBB r3' HOLD ⊢
            clear hBA HCT
            generalize wr.heap.size = bx at hBB r3' HOLD ⊢
            go_loopg [22] (kn c) (fun g v wi => ∃ j : Nat, g = kn c - j ∧ v = .int .i64 ((c : Int) * 64 + (j : Int)) ∧ j ≤ kn c ∧ Below (bx + 1) wB wi ∧ Below w3.heap.size w3 wi)
            case atStart => exact ⟨0, rfl, by go_num, Nat.zero_le _, hBB, hB2⟩
            case round =>
              obtain ⟨j, hg, rfl, hjk, hD, hD3⟩ := hrel
              have A2 : Aside (gk = kn c - j) := hg
              clear hg
              by_cases hj : j < kn c
              · have hjm : c * 64 + j < m := by have := HC2.out.2; split at this <;> omega
                have z3 := (hD.cell (p := ⟨bx, 3, none⟩) (Nat.lt_succ_self bx)).trans r3'
                have u0 := HOLD.out (HS0.out j hj)
                have u1 := HOLD.out (HS1.out j hj)
                have u2 := HOLD.out (HSS.out (c * 64 + j) hjm)
                have u3 := HOLD.out (HEE.out (c * 64 + j) hjm)
                have z0 := (hD.cell (Nat.lt_succ_of_lt u0.2)).trans u0.1
                have z1 := (hD.cell (Nat.lt_succ_of_lt u1.2)).trans u1.1
                have z2 := (hD.cell (Nat.lt_succ_of_lt u2.2)).trans u2.1
                have z4 := (hD.cell (Nat.lt_succ_of_lt u3.2)).trans u3.1
                clear u0 u1 u2 u3
                have hb1 := HSB.out (c * 64 + j) hjm
                have hb2 := HSB.out (c * 64) hcm
                have hzj : (j : Int) < (kn c : Int) := by omega
                have hzk : (c : Int) * 64 + (j : Int) ≤ (c : Int) * 64 + 63 := by have := HC2.out; split at this <;> omega
                have hzm : (c : Int) * 64 + (j : Int) < (m : Int) := by omega
                have hz00 : (0 : Int) ≤ (c : Int) * 64 + (j : Int) := by omega
                go_wp2
                have v0 : (wr.alloc (.cells #[.int .i64 ((S (c * 64 + j) : Int) - (S (c * 64) : Int)), .int .i64 ((E (c * 64 + j) : Int) - (S (c * 64) : Int))] 38)).cell? ⟨wr.heap.size, 0, none⟩ = some (.int .i64 ((S (c * 64 + j) : Int) - (S (c * 64) : Int))) := by simp
                have v1 : (wr.alloc (.cells #[.int .i64 ((S (c * 64 + j) : Int) - (S (c * 64) : Int)), .int .i64 ((E (c * 64 + j) : Int) - (S (c * 64) : Int))] 38)).cell? ⟨wr.heap.size, 1, none⟩ = some (.int .i64 ((E (c * 64 + j) : Int) - (S (c * 64) : Int))) := by simp
                have v2 := (World.cell?_alloc_lt wr (.cells #[.int .i64 ((S (c * 64 + j) : Int) - (S (c * 64) : Int)), .int .i64 ((E (c * 64 + j) : Int) - (S (c * 64) : Int))] 38) _ (World.block_lt_of_cell? _ _ z2)).trans z2
                have v3 := (World.cell?_alloc_lt wr (.cells #[.int .i64 ((S (c * 64 + j) : Int) - (S (c * 64) : Int)), .int .i64 ((E (c * 64 + j) : Int) - (S (c * 64) : Int))] 38) _ (World.block_lt_of_cell? _ _ z4)).trans z4
                have hV : Below (bx + 1) wB (wr.alloc (.cells #[.int .i64 ((S (c * 64 + j) : Int) - (S (c * 64) : Int)), .int .i64 ((E (c * 64 + j) : Int) - (S (c * 64) : Int))] 38)) := hD.alloc (World.block_lt_of_cell? _ _ z3) _
                have hV3 := hD3.alloc hD3.size (.cells #[.int .i64 ((S (c * 64 + j) : Int) - (S (c * 64) : Int)), .int .i64 ((E (c * 64 + j) : Int) - (S (c * 64) : Int))] 38)
                generalize wr.alloc (.cells #[.int .i64 ((S (c * 64 + j) : Int) - (S (c * 64) : Int)), .int .i64 ((E (c * 64 + j) : Int) - (S (c * 64) : Int))] 38) = wV at v0 v1 v2 v3 hV hV3 ⊢
                clear z0 z1 z2 z3 z4 hD hD3
                go_quiet (fail)
                go_wp2
                go_roundg (kn c - (j + 1))
                case measure => have := A2.out; omega
                case rel => exact ⟨j + 1, rfl, by go_num, by omega, ⟨hV.os, hV.tape, hV.output, hV.size, hV.block⟩, ⟨hV3.os, hV3.tape, hV3.output, hV3.size, hV3.block⟩⟩
              · have hzk : ¬ (c : Int) * 64 + (j : Int) ≤ (c : Int) * 64 + 63 := by have := HC2.out; split at this <;> omega
                go_wp2
                go_roundg (nb - (c + 1))
                case measure => have := A.out; omega
                case rel => exact ⟨c + 1, rfl, by go_num, by omega, hD3⟩
          · rw [if_neg hi1] at hec
            rw [← hec] at x1
            have hz2 : ¬ (c : Int) < (nb : Int) - 1 := by omega
            clear F hec
            by_cases hi2 : c * 64 + 64 ≤ m
            · have hz3 : ¬ (m : Int) - 1 < (c : Int) * 64 + 63 := by omega
              have hkb : ((kn c : Int) != (c : Int) * 64 + 63 - (c : Int) * 64 + 1) = false := by
                have := HC2.out
                rw [if_pos (by omega)] at this
                rw [this.2]
                simp
                omega
              go_wp2
              have hBA : Below wr.heap.size wr (wr.alloc (.cells #[.int .i64 (S (c * 64) : Int), .int .i64 (En c : Int), .slice (some ⟨w.heap.size, S (c * 64), none⟩) (En c - S (c * 64)) (n - S (c * 64)), .slice (some ⟨N + 1 + c, 0, none⟩) (kn c) (kn c)] 35)) := (Below.refl _ _).alloc (Nat.le_refl _) _
              have hRA := World.rowIs_alloc wr #[.int .i64 (S (c * 64) : Int), .int .i64 (En c : Int), .slice (some ⟨w.heap.size, S (c * 64), none⟩) (En c - S (c * 64)) (n - S (c * 64)), .slice (some ⟨N + 1 + c, 0, none⟩) (kn c) (kn c)] 35 (bkc (.int .i64 (S (c * 64) : Int)) (.int .i64 (En c : Int)) (.slice (some ⟨w.heap.size, S (c * 64), none⟩) (En c - S (c * 64)) (n - S (c * 64))) (.slice (some ⟨N + 1 + c, 0, none⟩) (kn c) (kn c))) (box4 _ _ _ _)
              have hsA : (wr.alloc (.cells #[.int .i64 (S (c * 64) : Int), .int .i64 (En c : Int), .slice (some ⟨w.heap.size, S (c * 64), none⟩) (En c - S (c * 64)) (n - S (c * 64)), .slice (some ⟨N + 1 + c, 0, none⟩) (kn c) (kn c)] 35)).heap.size = wr.heap.size + 1 := World.size_alloc _ _
              have HSA : Hid ((wr.alloc (.cells #[.int .i64 (S (c * 64) : Int), .int .i64 (En c : Int), .slice (some ⟨w.heap.size, S (c * 64), none⟩) (En c - S (c * 64)) (n - S (c * 64)), .slice (some ⟨N + 1 + c, 0, none⟩) (kn c) (kn c)] 35)).heap.size = wr.heap.size + 1) := hsA
              clear hsA
              generalize wr.alloc (.cells #[.int .i64 (S (c * 64) : Int), .int .i64 (En c : Int), .slice (some ⟨w.heap.size, S (c * 64), none⟩) (En c - S (c * 64)) (n - S (c * 64)), .slice (some ⟨N + 1 + c, 0, none⟩) (kn c) (kn c)] 35) = wA at hBA hRA HSA ⊢
              clear x0 x1 y0 y1 y2 y3
              have r2 : wA.cell? ⟨wr.heap.size, 2, none⟩ = some (.slice (some ⟨w.heap.size, S (c * 64), none⟩) (En c - S (c * 64)) (n - S (c * 64))) := hRA.cell (i := 2) (by show 2 < 4; omega)
              have r3 : wA.cell? ⟨wr.heap.size, 3, none⟩ = some (.slice (some ⟨N + 1 + c, 0, none⟩) (kn c) (kn c)) := hRA.cell (i := 3) (by show 3 < 4; omega)
              go_quiet ((go_at_call 14; exact Calls.quiet_of (equalBytes_yes w.heap.size (S (c * 64)) (n - S (c * 64)) w.heap.size (S (c * 64)) (n - S (c * 64)) (En c - S (c * 64)) (fun j => t (S (c * 64) + j)) _ (by omega) (HCT.out _ ⟨hBA.os, hBA.tape, hBA.output, hBA.size, hBA.block⟩) (HCT.out _ ⟨hBA.os, hBA.tape, hBA.output, hBA.size, hBA.block⟩))))
              go_wp2
              have hB2 : Below w3.heap.size w3 (wA.drewN nq) := (hB.trans (hBA.mono hB.size)).trans ⟨rfl, rfl, rfl, Nat.le_refl _, fun _ _ => rfl⟩
              have hBB : Below (wr.heap.size + 1) (wA.drewN nq) (wA.drewN nq) := Below.refl _ _
              have r3' : (wA.drewN nq).cell? ⟨wr.heap.size, 3, none⟩ = some (.slice (some ⟨N + 1 + c, 0, none⟩) (kn c) (kn c)) := r3
              have hold : ∀ {a : Addr} {v : Value}, wr.cell? a = some v → (wA.drewN nq).cell? a = some v ∧ a.block < wr.heap.size := fun hc => ⟨(hBA.cell (World.block_lt_of_cell? _ _ hc)).trans hc, World.block_lt_of_cell? _ _ hc⟩
              have HOLD : Hid (∀ {a : Addr} {v : Value}, wr.cell? a = some v → (wA.drewN nq).cell? a = some v ∧ a.block < wr.heap.size) := hold
              clear hold r2 r3 hRA HSA
              generalize wA.drewN nq = wB at hB2 hBB r3' HOLD ⊢
              clear hBA HCT
              generalize wr.heap.size = bx at hBB r3' HOLD ⊢
              go_loopg [22] (kn c) (fun g v wi => ∃ j : Nat, g = kn c - j ∧ v = .int .i64 ((c : Int) * 64 + (j : Int)) ∧ j ≤ kn c ∧ Below (bx + 1) wB wi ∧ Below w3.heap.size w3 wi)
              case atStart => exact ⟨0, rfl, by go_num, Nat.zero_le _, hBB, hB2⟩
              case round =>
                obtain ⟨j, hg, rfl, hjk, hD, hD3⟩ := hrel
                have A2 : Aside (gk = kn c - j) := hg
                clear hg
                by_cases hj : j < kn c
                · have hjm : c * 64 + j < m := by have := HC2.out.2; split at this <;> omega
                  have z3 := (hD.cell (p := ⟨bx, 3, none⟩) (Nat.lt_succ_self bx)).trans r3'
                  have u0 := HOLD.out (HS0.out j hj)
                  have u1 := HOLD.out (HS1.out j hj)
                  have u2 := HOLD.out (HSS.out (c * 64 + j) hjm)
                  have u3 := HOLD.out (HEE.out (c * 64 + j) hjm)
                  have z0 := (hD.cell (Nat.lt_succ_of_lt u0.2)).trans u0.1
                  have z1 := (hD.cell (Nat.lt_succ_of_lt u1.2)).trans u1.1
                  have z2 := (hD.cell (Nat.lt_succ_of_lt u2.2)).trans u2.1
                  have z4 := (hD.cell (Nat.lt_succ_of_lt u3.2)).trans u3.1
                  clear u0 u1 u2 u3
                  have hb1 := HSB.out (c * 64 + j) hjm
                  have hb2 := HSB.out (c * 64) hcm
                  have hzj : (j : Int) < (kn c : Int) := by omega
                  have hzk : (c : Int) * 64 + (j : Int) ≤ (c : Int) * 64 + 63 := by have := HC2.out; split at this <;> omega
                  have hzm : (c : Int) * 64 + (j : Int) < (m : Int) := by omega
                  have hz00 : (0 : Int) ≤ (c : Int) * 64 + (j : Int) := by omega
                  go_wp2
                  have v0 : (wr.alloc (.cells #[.int .i64 ((S (c * 64 + j) : Int) - (S (c * 64) : Int)), .int .i64 ((E (c * 64 + j) : Int) - (S (c * 64) : Int))] 38)).cell? ⟨wr.heap.size, 0, none⟩ = some (.int .i64 ((S (c * 64 + j) : Int) - (S (c * 64) : Int))) := by simp
                  have v1 : (wr.alloc (.cells #[.int .i64 ((S (c * 64 + j) : Int) - (S (c * 64) : Int)), .int .i64 ((E (c * 64 + j) : Int) - (S (c * 64) : Int))] 38)).cell? ⟨wr.heap.size, 1, none⟩ = some (.int .i64 ((E (c * 64 + j) : Int) - (S (c * 64) : Int))) := by simp
                  have v2 := (World.cell?_alloc_lt wr (.cells #[.int .i64 ((S (c * 64 + j) : Int) - (S (c * 64) : Int)), .int .i64 ((E (c * 64 + j) : Int) - (S (c * 64) : Int))] 38) _ (World.block_lt_of_cell? _ _ z2)).trans z2
                  have v3 := (World.cell?_alloc_lt wr (.cells #[.int .i64 ((S (c * 64 + j) : Int) - (S (c * 64) : Int)), .int .i64 ((E (c * 64 + j) : Int) - (S (c * 64) : Int))] 38) _ (World.block_lt_of_cell? _ _ z4)).trans z4
                  have hV : Below (bx + 1) wB (wr.alloc (.cells #[.int .i64 ((S (c * 64 + j) : Int) - (S (c * 64) : Int)), .int .i64 ((E (c * 64 + j) : Int) - (S (c * 64) : Int))] 38)) := hD.alloc (World.block_lt_of_cell? _ _ z3) _
                  have hV3 := hD3.alloc hD3.size (.cells #[.int .i64 ((S (c * 64 + j) : Int) - (S (c * 64) : Int)), .int .i64 ((E (c * 64 + j) : Int) - (S (c * 64) : Int))] 38)
                  generalize wr.alloc (.cells #[.int .i64 ((S (c * 64 + j) : Int) - (S (c * 64) : Int)), .int .i64 ((E (c * 64 + j) : Int) - (S (c * 64) : Int))] 38) = wV at v0 v1 v2 v3 hV hV3 ⊢
                  clear z0 z1 z2 z3 z4 hD hD3
                  go_quiet (fail)
                  go_wp2
                  go_roundg (kn c - (j + 1))
                  case measure => have := A2.out; omega
                  case rel => exact ⟨j + 1, rfl, by go_num, by omega, ⟨hV.os, hV.tape, hV.output, hV.size, hV.block⟩, ⟨hV3.os, hV3.tape, hV3.output, hV3.size, hV3.block⟩⟩
                · have hzk : ¬ (c : Int) * 64 + (j : Int) ≤ (c : Int) * 64 + 63 := by have := HC2.out; split at this <;> omega
                  go_wp2
                  go_roundg (nb - (c + 1))
                  case measure => have := A.out; omega
                  case rel => exact ⟨c + 1, rfl, by go_num, by omega, hD3⟩
            · have hz3 : (m : Int) - 1 < (c : Int) * 64 + 63 := by omega
              have hkb : ((kn c : Int) != (m : Int) - 1 - (c : Int) * 64 + 1) = false := by
                have := HC2.out
                rw [if_neg (by omega)] at this
                rw [this.2]
                simp
                omega
              go_wp2
              have hBA : Below wr.heap.size wr (wr.alloc (.cells #[.int .i64 (S (c * 64) : Int), .int .i64 (En c : Int), .slice (some ⟨w.heap.size, S (c * 64), none⟩) (En c - S (c * 64)) (n - S (c * 64)), .slice (some ⟨N + 1 + c, 0, none⟩) (kn c) (kn c)] 35)) := (Below.refl _ _).alloc (Nat.le_refl _) _
              have hRA := World.rowIs_alloc wr #[.int .i64 (S (c * 64) : Int), .int .i64 (En c : Int), .slice (some ⟨w.heap.size, S (c * 64), none⟩) (En c - S (c * 64)) (n - S (c * 64)), .slice (some ⟨N + 1 + c, 0, none⟩) (kn c) (kn c)] 35 (bkc (.int .i64 (S (c * 64) : Int)) (.int .i64 (En c : Int)) (.slice (some ⟨w.heap.size, S (c * 64), none⟩) (En c - S (c * 64)) (n - S (c * 64))) (.slice (some ⟨N + 1 + c, 0, none⟩) (kn c) (kn c))) (box4 _ _ _ _)
              have hsA : (wr.alloc (.cells #[.int .i64 (S (c * 64) : Int), .int .i64 (En c : Int), .slice (some ⟨w.heap.size, S (c * 64), none⟩) (En c - S (c * 64)) (n - S (c * 64)), .slice (some ⟨N + 1 + c, 0, none⟩) (kn c) (kn c)] 35)).heap.size = wr.heap.size + 1 := World.size_alloc _ _
              have HSA : Hid ((wr.alloc (.cells #[.int .i64 (S (c * 64) : Int), .int .i64 (En c : Int), .slice (some ⟨w.heap.size, S (c * 64), none⟩) (En c - S (c * 64)) (n - S (c * 64)), .slice (some ⟨N + 1 + c, 0, none⟩) (kn c) (kn c)] 35)).heap.size = wr.heap.size + 1) := hsA
              clear hsA
              generalize wr.alloc (.cells #[.int .i64 (S (c * 64) : Int), .int .i64 (En c : Int), .slice (some ⟨w.heap.size, S (c * 64), none⟩) (En c - S (c * 64)) (n - S (c * 64)), .slice (some ⟨N + 1 + c, 0, none⟩) (kn c) (kn c)] 35) = wA at hBA hRA HSA ⊢
              clear x0 x1 y0 y1 y2 y3
              have r2 : wA.cell? ⟨wr.heap.size, 2, none⟩ = some (.slice (some ⟨w.heap.size, S (c * 64), none⟩) (En c - S (c * 64)) (n - S (c * 64))) := hRA.cell (i := 2) (by show 2 < 4; omega)
              have r3 : wA.cell? ⟨wr.heap.size, 3, none⟩ = some (.slice (some ⟨N + 1 + c, 0, none⟩) (kn c) (kn c)) := hRA.cell (i := 3) (by show 3 < 4; omega)
              go_quiet ((go_at_call 14; exact Calls.quiet_of (equalBytes_yes w.heap.size (S (c * 64)) (n - S (c * 64)) w.heap.size (S (c * 64)) (n - S (c * 64)) (En c - S (c * 64)) (fun j => t (S (c * 64) + j)) _ (by omega) (HCT.out _ ⟨hBA.os, hBA.tape, hBA.output, hBA.size, hBA.block⟩) (HCT.out _ ⟨hBA.os, hBA.tape, hBA.output, hBA.size, hBA.block⟩))))
              go_wp2
              have hB2 : Below w3.heap.size w3 (wA.drewN nq) := (hB.trans (hBA.mono hB.size)).trans ⟨rfl, rfl, rfl, Nat.le_refl _, fun _ _ => rfl⟩
              have hBB : Below (wr.heap.size + 1) (wA.drewN nq) (wA.drewN nq) := Below.refl _ _
              have r3' : (wA.drewN nq).cell? ⟨wr.heap.size, 3, none⟩ = some (.slice (some ⟨N + 1 + c, 0, none⟩) (kn c) (kn c)) := r3
              have hold : ∀ {a : Addr} {v : Value}, wr.cell? a = some v → (wA.drewN nq).cell? a = some v ∧ a.block < wr.heap.size := fun hc => ⟨(hBA.cell (World.block_lt_of_cell? _ _ hc)).trans hc, World.block_lt_of_cell? _ _ hc⟩
              have HOLD : Hid (∀ {a : Addr} {v : Value}, wr.cell? a = some v → (wA.drewN nq).cell? a = some v ∧ a.block < wr.heap.size) := hold
              clear hold r2 r3 hRA HSA
              generalize wA.drewN nq = wB at hB2 hBB r3' HOLD ⊢
              clear hBA HCT
              generalize wr.heap.size = bx at hBB r3' HOLD ⊢
              go_loopg [22] (kn c) (fun g v wi => ∃ j : Nat, g = kn c - j ∧ v = .int .i64 ((c : Int) * 64 + (j : Int)) ∧ j ≤ kn c ∧ Below (bx + 1) wB wi ∧ Below w3.heap.size w3 wi)
              case atStart => exact ⟨0, rfl, by go_num, Nat.zero_le _, hBB, hB2⟩
              case round =>
                obtain ⟨j, hg, rfl, hjk, hD, hD3⟩ := hrel
                have A2 : Aside (gk = kn c - j) := hg
                clear hg
                by_cases hj : j < kn c
                · have hjm : c * 64 + j < m := by have := HC2.out.2; split at this <;> omega
                  have z3 := (hD.cell (p := ⟨bx, 3, none⟩) (Nat.lt_succ_self bx)).trans r3'
                  have u0 := HOLD.out (HS0.out j hj)
                  have u1 := HOLD.out (HS1.out j hj)
                  have u2 := HOLD.out (HSS.out (c * 64 + j) hjm)
                  have u3 := HOLD.out (HEE.out (c * 64 + j) hjm)
                  have z0 := (hD.cell (Nat.lt_succ_of_lt u0.2)).trans u0.1
                  have z1 := (hD.cell (Nat.lt_succ_of_lt u1.2)).trans u1.1
                  have z2 := (hD.cell (Nat.lt_succ_of_lt u2.2)).trans u2.1
                  have z4 := (hD.cell (Nat.lt_succ_of_lt u3.2)).trans u3.1
                  clear u0 u1 u2 u3
                  have hb1 := HSB.out (c * 64 + j) hjm
                  have hb2 := HSB.out (c * 64) hcm
                  have hzj : (j : Int) < (kn c : Int) := by omega
                  have hzk : (c : Int) * 64 + (j : Int) ≤ (m : Int) - 1 := by have := HC2.out; split at this <;> omega
                  have hzm : (c : Int) * 64 + (j : Int) < (m : Int) := by omega
                  have hz00 : (0 : Int) ≤ (c : Int) * 64 + (j : Int) := by omega
                  go_wp2
                  have v0 : (wr.alloc (.cells #[.int .i64 ((S (c * 64 + j) : Int) - (S (c * 64) : Int)), .int .i64 ((E (c * 64 + j) : Int) - (S (c * 64) : Int))] 38)).cell? ⟨wr.heap.size, 0, none⟩ = some (.int .i64 ((S (c * 64 + j) : Int) - (S (c * 64) : Int))) := by simp
                  have v1 : (wr.alloc (.cells #[.int .i64 ((S (c * 64 + j) : Int) - (S (c * 64) : Int)), .int .i64 ((E (c * 64 + j) : Int) - (S (c * 64) : Int))] 38)).cell? ⟨wr.heap.size, 1, none⟩ = some (.int .i64 ((E (c * 64 + j) : Int) - (S (c * 64) : Int))) := by simp
                  have v2 := (World.cell?_alloc_lt wr (.cells #[.int .i64 ((S (c * 64 + j) : Int) - (S (c * 64) : Int)), .int .i64 ((E (c * 64 + j) : Int) - (S (c * 64) : Int))] 38) _ (World.block_lt_of_cell? _ _ z2)).trans z2
                  have v3 := (World.cell?_alloc_lt wr (.cells #[.int .i64 ((S (c * 64 + j) : Int) - (S (c * 64) : Int)), .int .i64 ((E (c * 64 + j) : Int) - (S (c * 64) : Int))] 38) _ (World.block_lt_of_cell? _ _ z4)).trans z4
                  have hV : Below (bx + 1) wB (wr.alloc (.cells #[.int .i64 ((S (c * 64 + j) : Int) - (S (c * 64) : Int)), .int .i64 ((E (c * 64 + j) : Int) - (S (c * 64) : Int))] 38)) := hD.alloc (World.block_lt_of_cell? _ _ z3) _
                  have hV3 := hD3.alloc hD3.size (.cells #[.int .i64 ((S (c * 64 + j) : Int) - (S (c * 64) : Int)), .int .i64 ((E (c * 64 + j) : Int) - (S (c * 64) : Int))] 38)
                  generalize wr.alloc (.cells #[.int .i64 ((S (c * 64 + j) : Int) - (S (c * 64) : Int)), .int .i64 ((E (c * 64 + j) : Int) - (S (c * 64) : Int))] 38) = wV at v0 v1 v2 v3 hV hV3 ⊢
                  clear z0 z1 z2 z3 z4 hD hD3
                  go_quiet (fail)
                  go_wp2
                  go_roundg (kn c - (j + 1))
                  case measure => have := A2.out; omega
                  case rel => exact ⟨j + 1, rfl, by go_num, by omega, ⟨hV.os, hV.tape, hV.output, hV.size, hV.block⟩, ⟨hV3.os, hV3.tape, hV3.output, hV3.size, hV3.block⟩⟩
                · have hzk : ¬ (c : Int) * 64 + (j : Int) ≤ (m : Int) - 1 := by have := HC2.out; split at this <;> omega
                  go_wp2
                  go_roundg (nb - (c + 1))
                  case measure => have := A.out; omega
                  case rel => exact ⟨c + 1, rfl, by go_num, by omega, hD3⟩
        · have hz1 : ¬ (c : Int) < (nb : Int) := by omega
          go_wp2
          go_ret
          exact ⟨rfl, HX.out.1.trans (hB.mono HX.out.1.size)⟩

end Go.Proofs.Qxb6603699a
