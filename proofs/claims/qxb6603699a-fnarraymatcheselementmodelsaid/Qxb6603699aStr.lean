import Derived.Test.Qxb6603699aBase
import Derived.Lib.BytesEntry
import Derived.Lib.Walk
import Derived.Deep.LoopGhost
namespace Go.Proofs.Qxb6603699a
open Go.RowKit

theorem idx_lib (t : Nat → Int) (c : Int) (hc : 0 ≤ c ∧ c ≤ 255) (ht : ∀ k, 0 ≤ t k ∧ t k ≤ 255) : ∀ m p, Lib.indexByte (Lib.bytesOf ((List.range m).map fun j => t (p + j))) c.toNat.toUInt8 = idxF t c p m
  | 0, p => rfl
  | m + 1, p => by
    have ih := idx_lib t c hc ht m (p + 1)
    have e : (List.range (m + 1)).map (fun j => t (p + j)) = t p :: (List.range m).map fun j => t (p + 1 + j) := by
      rw [List.range_succ_eq_map]
      simp only [List.map_cons, List.map_map, Nat.add_zero]
      congr 1
      apply List.map_congr_left
      intro j _
      simp only [Function.comp]
      congr 1
      omega
    rw [e]
    have h1 := ht p
    have hb : (UInt8.ofNat (t p).toNat == c.toNat.toUInt8) = decide (t p = c) := by
      by_cases h : t p = c
      · subst h; simp
      · have : UInt8.ofNat (t p).toNat ≠ c.toNat.toUInt8 := fun he => h (by
          have := congrArg UInt8.toNat he
          simp at this
          omega)
        simp [h, this]
    show (if (UInt8.ofNat (t p).toNat == c.toNat.toUInt8) = true then (0 : Int) else if Lib.indexByte (Lib.bytesOf ((List.range m).map fun j => t (p + 1 + j))) c.toNat.toUInt8 == -1 then -1 else Lib.indexByte (Lib.bytesOf ((List.range m).map fun j => t (p + 1 + j))) c.toNat.toUInt8 + 1) = _
    rw [ih, hb]
    simp [idxF]

set_option maxHeartbeats 400000 in
theorem indexByte_any (tb p m cp : Nat) (c : Int) (t : Nat → Int) (w : World) (hc : 0 ≤ c ∧ c ≤ 255) (ht : ∀ k, 0 ≤ t k ∧ t k ≤ 255) (hcell : ∀ k, k < m → w.cell? ⟨tb, p + k, none⟩ = some (.int .u8 (t (p + k)))) :
    Calls Try.prog 47 #[.slice (some ⟨tb, p, none⟩) m cp, .int .u8 c] w fun e w' => e = .returned (.int .i64 (idxF t c p m)) ∧ w' = w := by
  have hr := Lib.run_indexByteSlice (P := Try.prog) w tb p m cp ((List.range m).map fun j => t (p + j)) (by simp) (fun i hi => by rw [hcell i hi]; simp [hi]) c
  rw [idx_lib t c hc ht] at hr
  have hx := run_callFunc_extern Try.func51 (by kernel_rfl) (by kernel_rfl) (by kernel_rfl) (e := Extern.BytealgIndexByte.indexByte) (by kernel_rfl) (P := Try.prog)
  clear hcell ht
  go_enter Try.func47, Try.ntmps47
  go_wp2
  go_ret
  exact ⟨rfl, rfl⟩

theorem rows_ne {w : World} {a b n m : Nat} {f g : Nat → Value} (h : w.rowIs a 66 n f) (k : w.rowIs b 5 m g) : b ≠ a := by
  rintro rfl
  obtain ⟨c, hc, _, _⟩ := h
  obtain ⟨d, hd, _, _⟩ := k
  rw [hc] at hd
  simp at hd

/-- What the scanner's text and place are. -/
structure Sc (w : World) (sb tb n : Nat) (t : Nat → Int) (i : Nat) : Prop where
  at_ : w.rowIs sb 66 2 (scv (.slice (some ⟨tb, 0, none⟩) n n) i)
  text : w.rowIs tb 5 n (fun k => .int .u8 (t k))

namespace Sc
variable {w w' : World} {sb tb n i j : Nat} {t : Nat → Int}
theorem c0 (h : Sc w sb tb n t i) : w.cell? ⟨sb, 0, none⟩ = some (.slice (some ⟨tb, 0, none⟩) n n) := h.at_.cell (i := 0) (by omega)
theorem c1 (h : Sc w sb tb n t i) : w.cell? ⟨sb, 1, none⟩ = some (.int .i64 i) := h.at_.cell (i := 1) (by omega)
theorem fz (h : Sc w sb tb n t i) : w.frozen? ⟨sb, 1, none⟩ = false := h.at_.frozen 1
theorem ch (h : Sc w sb tb n t i) {k : Nat} (hk : k < n) : w.cell? ⟨tb, k, none⟩ = some (.int .u8 (t k)) := h.text.cell hk
theorem ne (h : Sc w sb tb n t i) : tb ≠ sb := rows_ne h.at_ h.text
theorem drewN (h : Sc w sb tb n t i) (m : Nat) : Sc (w.drewN m) sb tb n t i := ⟨h.at_, h.text⟩
theorem set (h : Sc w sb tb n t i) (j : Nat) : Sc (w.setCell ⟨sb, 1, none⟩ (.int .i64 j)) sb tb n t j := ⟨scv_set h.at_, h.text.setOther h.ne _⟩
theorem to (h : Sc w sb tb n t i) (s : SameBut sb w w') (r : w'.rowIs sb 66 2 (scv (.slice (some ⟨tb, 0, none⟩) n n) j)) : Sc w' sb tb n t j := ⟨r, s.row h.ne h.text⟩
end Sc

set_option maxHeartbeats 1000000 in
theorem str_any (sb tb n i : Nat) (t : Nat → Int) (w : World) (hn : n ≤ 1048576) (ht : ∀ k, 0 ≤ t k ∧ t k ≤ 255) (hi : i < n) (hq : t i = 34) (hS : Sc w sb tb n t i) :
    Calls Try.prog 39 #[.pointer (some ⟨sb, 0, none⟩)] w fun e w' => e = .returned (.bool (strR t n i).1) ∧ SameBut sb w w' ∧ Sc w' sb tb n t (strR t n i).2 := by
  have HQ : Hid (t i = 34) := hq
  clear hq
  go_enter Try.func39, Try.ntmps39
  go_wp2_with (go_at_call 42; refine (take_yes sb tb n i 34 t _ hn hi HQ.out hS.at_ hS.text).mono ?_; rintro e w1 ⟨rfl, hs1, hr1⟩)
  have hS1 := hS.to hs1 hr1
  clear hr1 hS
  go_loopg [3] (n - (i + 1)) (fun g _ wr => ∃ p : Nat, i < p ∧ p ≤ n ∧ g = n - p ∧ t (p - 1) = 34 ∧ sScan t (n - p) p false = sScan t (n - (i + 1)) (i + 1) false ∧ SameBut sb w wr ∧ Sc wr sb tb n t p)
  case atStart => exact ⟨i + 1, by omega, by omega, rfl, HQ.out, rfl, hs1, hS1⟩
  case round =>
    obtain ⟨p, hip, hpn, hg, hpq, hsc, hs, hSr⟩ := hrel
    have A : Aside (gk = n - p ∧ t (p - 1) = 34 ∧ sScan t (n - p) p false = sScan t (n - (i + 1)) (i + 1) false) := ⟨hg, hpq, hsc⟩
    clear hg hpq hsc hs1 hS1
    have g0 := hSr.c0
    have g1 := hSr.c1
    have g2 := hSr.fz
    have hcell : ∀ (m : Nat), ∀ k, k < n - p → (wr.drewN m).cell? ⟨tb, p + k, none⟩ = some (.int .u8 (t (p + k))) := fun m k hk => (hSr.drewN m).ch (by omega)
    have HC : Hid (∀ (m : Nat), ∀ k, k < n - p → (wr.drewN m).cell? ⟨tb, p + k, none⟩ = some (.int .u8 (t (p + k)))) := hcell
    clear hcell
    rcases idxF_spec t 34 (n - p) p with ⟨hx, hno⟩ | ⟨k, hk, hx, hq, hno⟩
    · have hfin : strR t n i = (false, p) := by
        have h1 : sScan t (n - (i + 1)) (i + 1) false = none := by rw [← A.out.2.2]; exact sScan_none t _ _ _ hno
        have h2 : lastQ t n = p := lastQ_at t p (by omega) A.out.2.1 n hpn (fun j a b => by have := hno (j - p) (by omega); rwa [show p + (j - p) = j by omega] at this)
        simp [strR, h1, h2]
      have HF : Hid (strR t n i = (false, p)) := hfin
      clear hno hfin
      by_cases hpe : p = n
      · subst hpe
        have h0 : ∀ (m : Nat), ∀ k, k < 0 → (wr.drewN m).cell? ⟨tb, 0 + k, none⟩ = some (.int .u8 (t (0 + k))) := fun m k hk => absurd hk (Nat.not_lt_zero _)
        have H0 : Hid (∀ (m : Nat), ∀ k, k < 0 → (wr.drewN m).cell? ⟨tb, 0 + k, none⟩ = some (.int .u8 (t (0 + k)))) := h0
        have hx0 : idxF t 34 0 0 = -1 := rfl
        clear h0 hx
        go_wp2
        go_quiet ((go_at_call 47; exact Calls.quiet_of_same (indexByte_any tb 0 0 0 34 t _ (by omega) ht (H0.out _))))
        go_wp2
        go_ret
        rw [HF.out]
        exact ⟨rfl, hs.drewN nq, hSr.drewN nq⟩
      · have hne : ¬ n = p := fun h => hpe h.symm
        go_wp2
        go_quiet ((go_at_call 47; exact Calls.quiet_of_same (indexByte_any tb p (n - p) (n - p) 34 t _ (by omega) ht (HC.out _))))
        go_wp2
        go_ret
        rw [HF.out]
        exact ⟨rfl, hs.drewN nq, hSr.drewN nq⟩
    · have HN : Hid ((∀ j, j < k → t (p + j) ≠ 34) ∧ t (p + k) = 34) := ⟨hno, hq⟩
      clear hno hq
      go_wp2
      go_quiet ((go_at_call 47; exact Calls.quiet_of_same (indexByte_any tb p (n - p) (n - p) 34 t _ (by omega) ht (HC.out _))))
      go_wp2
      go_loopg [5] (k + 1) (fun g b wi => ∃ e : Nat, e ≤ k ∧ g = e + 1 ∧ b = .int .i64 ((p + e : Nat) : Int) ∧ (∀ j, p + e ≤ j → j < p + k → t j = 92) ∧ SameBut sb w wi ∧ Sc wi sb tb n t (p + k + 1))
      case atStart => exact ⟨k, Nat.le_refl _, rfl, by go_num, fun j a b => by omega, (hs.drewN nq).setCell 1 _, (hSr.drewN nq).set (p + k + 1)⟩
      case round =>
        obtain ⟨e, hek, rfl, rfl, hrun, hsi, hSi⟩ := hrel
        have HR : Hid (∀ j, p + e ≤ j → j < p + k → t j = 92) := hrun
        clear hrun hs hSr g0 g1 g2 HC hx
        have g0 := hSi.c0
        have g1 := hSi.ch (k := p + e - 1) (by omega)
        by_cases hb : t (p + e - 1) = 92
        · have he0 : 1 ≤ e := by
            refine Nat.one_le_iff_ne_zero.2 fun h => ?_
            subst h
            have := A.out.2.1
            simp only [Nat.add_zero] at hb
            omega
          obtain ⟨e', rfl⟩ : ∃ e', e = e' + 1 := ⟨e - 1, by omega⟩
          rw [show p + (e' + 1) - 1 = p + e' by omega] at hb g1
          go_wp2
          go_roundg (e' + 1)
          case measure => omega
          case rel =>
            refine ⟨e', by omega, rfl, by go_num, fun j a b => ?_, hsi, hSi⟩
            by_cases hj : j = p + e'
            · rw [hj]; exact hb
            · exact HR.out j (by omega) b
        · have hseg := sScan_seg t n p (p + e) (p + k) (by omega) (by omega) (by omega) (fun j a b => by have := HN.out.1 (j - p) (by omega); rwa [show p + (j - p) = j by omega] at this) HN.out.2 HR.out (Or.inr hb)
          have HSeg : Hid (sScan t (n - p) p false = if (p + k - (p + e)) % 2 = 0 then some (p + k + 1) else sScan t (n - (p + k + 1)) (p + k + 1) false) := hseg
          clear hseg
          go_wp2
          · have hm : (((p : Int) + (k : Int) - ((p : Int) + (e : Int))) % 2 == 0) = true := by assumption
            have hm' : (p + k - (p + e)) % 2 = 0 := by rw [beq_iff_eq] at hm; omega
            have hfin : strR t n i = (true, p + k + 1) := by
              have h1 : sScan t (n - (i + 1)) (i + 1) false = some (p + k + 1) := by rw [← A.out.2.2, HSeg.out, if_pos hm']
              simp [strR, h1]
            go_ret
            rw [hfin]
            exact ⟨rfl, hsi, hSi⟩
          · have hm : (((p : Int) + (k : Int) - ((p : Int) + (e : Int))) % 2 == 0) = false := by assumption
            have hm' : ¬ (p + k - (p + e)) % 2 = 0 := by rw [beq_eq_false_iff_ne] at hm; omega
            go_roundg (n - (p + k + 1))
            case measure => have := A.out.1; omega
            case rel =>
              refine ⟨p + k + 1, by omega, by omega, rfl, by simpa using HN.out.2, ?_, hsi, hSi⟩
              rw [← A.out.2.2, HSeg.out, if_neg hm']

end Go.Proofs.Qxb6603699a
