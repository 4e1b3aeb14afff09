import Derived.Test.Qxb6603699aVal
import Derived.Test.Qxb6603699aPlainA
namespace Go.Proofs.Qxb6603699a
open Go.RowKit

set_option maxHeartbeats 400000 in
theorem zzBytesA_yes (a : Option Addr) (n c : Nat) (i : Int) (w : World) (h : n ≤ 1048576) :
    Calls Try.prog 11 #[.slice a n c, .int .i64 i] w fun e w' => e = .returned (.bool true) ∧ w' = w := by
  go_enter Try.func11, Try.ntmps11
  go_wp2
  go_ret
  exact ⟨rfl, rfl⟩

set_option maxHeartbeats 400000 in
theorem zzBytesA_no (a : Option Addr) (n c : Nat) (i : Int) (w : World) (h : 1048576 < n) :
    Calls Try.prog 11 #[.slice a n c, .int .i64 i] w fun e w' => e = .returned (.bool false) ∧ w' = w := by
  go_enter Try.func11, Try.ntmps11
  go_wp2
  go_ret
  exact ⟨rfl, rfl⟩

set_option maxHeartbeats 400000 in
theorem vmText_nil (i : Nat) (w : World) (hi : i ≤ 1099511627776) :
    Calls Try.prog 50 #[.slice none 0 0, .int .i64 i] w fun e w' => e = .returned (.slice none 0 0) ∧ w' = w := by
  go_enter Try.func50, Try.ntmps50
  go_wp2
  go_ret
  exact ⟨rfl, rfl⟩

set_option maxHeartbeats 400000 in
theorem blocksIn_nil (w : World) :
    Calls Try.prog 33 #[.slice none 0 0] w fun e w' => e = .returned (.slice none 0 0) ∧ w' = w := by
  have q27 : ∀ (w : World) (a : Option Addr) (n c n' c' : Nat), (binOp .eql 27 (.slice a n c) (.slice none n' c')).run Try.prog w = .ok (.bool a.isNone) w := fun w a n c n' c' => Lib.run_eql_slice_nil w _ _ a n c n' c' Try.underlying27
  go_enter Try.func33, Try.ntmps33
  go_wp2
  go_ret
  exact ⟨rfl, rfl⟩

set_option maxHeartbeats 1000000 in
theorem space_any (sb tb n p0 : Nat) (t : Nat → Int) (w : World) (hn : n ≤ 1048576) (h0 : p0 ≤ n) (hS : Sc w sb tb n t p0) :
    Calls Try.prog 43 #[.pointer (some ⟨sb, 0, none⟩)] w fun e w' => e = .returned (.tuple #[]) ∧ SameBut sb w w' ∧ Sc w' sb tb n t (skip t n p0) := by
  go_enter Try.func43, Try.ntmps43
  go_wp2
  go_loopg [2] (n - p0) (fun g _ wr => ∃ p : Nat, g = n - p ∧ p0 ≤ p ∧ p ≤ n ∧ skip t n p = skip t n p0 ∧ SameBut sb w wr ∧ Sc wr sb tb n t p)
  case atStart => exact ⟨p0, rfl, Nat.le_refl _, h0, rfl, SameBut.refl sb w, hS⟩
  case round =>
    obtain ⟨p, hg, l1, l2, he, hsm, hsc⟩ := hrel
    have A : Aside (gk = n - p ∧ skip t n p = skip t n p0) := ⟨hg, he⟩
    clear hg he
    have g0 := hsc.c0
    have g1 := hsc.c1
    have g2 := hsc.fz
    by_cases hp : p < n
    · have hz : (p : Int) < (n : Int) := by omega
      have hd : decide (p < n) = true := by simp; omega
      have g3 := hsc.ch hp
      cases hsp : isSp (t p) with
      | true =>
        have E1 : Hid (skip t n (p + 1) = skip t n p0) := by
          show skip t n (p + 1) = skip t n p0
          rw [← A.out.2, skip_sp t n p hp hsp]
        go_wp2
        go_quiet ((go_at_call 40; exact Calls.quiet_of_same (isSpace_any _ _)))
        go_wp2
        go_roundg (n - (p + 1))
        case measure => have := A.out.1; omega
        case rel => exact ⟨p + 1, rfl, by omega, by omega, E1.out, (hsm.drewN _).setCell 1 _, (hsc.drewN _).set (p + 1)⟩
      | false =>
        have H1 : Hid (skip t n p0 = p) := by
          show skip t n p0 = p
          rw [← A.out.2, skip_stop t n p hsp]
        go_wp2
        go_quiet ((go_at_call 40; exact Calls.quiet_of_same (isSpace_any _ _)))
        go_wp2
        go_end0
        rw [H1.out]
        exact ⟨rfl, hsm.drewN _, hsc.drewN _⟩
    · have hd : decide (p < n) = false := by simp; omega
      have H1 : Hid (skip t n p0 = p) := by
        show skip t n p0 = p
        rw [← A.out.2, skip_end t n p (by omega)]
      go_wp2
      go_quiet (fail)
      go_wp2
      go_end0
      rw [H1.out]
      exact ⟨rfl, hsm.drewN _, hsc.drewN _⟩

set_option maxHeartbeats 1000000 in
theorem rbSkip_any (tb n cp p0 : Nat) (t : Nat → Int) (w : World) (hn : n ≤ 1048576) (h0 : p0 ≤ n) (hT : w.rowIs tb 5 n (fun k => .int .u8 (t k))) :
    Calls Try.prog 35 #[.slice (some ⟨tb, 0, none⟩) n cp, .int .i64 p0] w fun e w' => e = .returned (.int .i64 (skip t n p0 : Nat)) ∧ w' = w := by
  go_enter Try.func35, Try.ntmps35
  go_wp2
  go_loopg [1] (n - p0) (fun g v wr => ∃ p : Nat, g = n - p ∧ v = .int .i64 p ∧ p0 ≤ p ∧ p ≤ n ∧ skip t n p = skip t n p0 ∧ wr = w)
  case atStart => exact ⟨p0, rfl, rfl, Nat.le_refl _, h0, rfl, rfl⟩
  case round =>
    obtain ⟨p, hg, rfl, l1, l2, he, rfl⟩ := hrel
    have A : Aside (gk = n - p ∧ skip t n p = skip t n p0) := ⟨hg, he⟩
    clear hg he
    by_cases hp : p < n
    · have hz : (p : Int) < (n : Int) := by omega
      have hd : decide (p < n) = true := by simp; omega
      have g3 := hT.cell hp
      cases hsp : isSp (t p) with
      | true =>
        have E1 : Hid (skip t n (p + 1) = skip t n p0) := by
          show skip t n (p + 1) = skip t n p0
          rw [← A.out.2, skip_sp t n p hp hsp]
        go_wp2_with (go_at_call 31; refine (rbIsSpace_any _ _).mono ?_; rintro e w' ⟨rfl, rfl⟩)
        go_roundg (n - (p + 1))
        case measure => have := A.out.1; omega
        case rel => exact ⟨p + 1, rfl, by go_num, by omega, by omega, E1.out, rfl⟩
      | false =>
        have H1 : Hid (skip t n p0 = p) := by
          show skip t n p0 = p
          rw [← A.out.2, skip_stop t n p hsp]
        go_wp2_with (go_at_call 31; refine (rbIsSpace_any _ _).mono ?_; rintro e w' ⟨rfl, rfl⟩)
        go_ret
        rw [H1.out]
        exact ⟨rfl, rfl⟩
    · have hd : decide (p < n) = false := by simp; omega
      have H1 : Hid (skip t n p0 = p) := by
        show skip t n p0 = p
        rw [← A.out.2, skip_end t n p (by omega)]
      go_wp2
      go_ret
      rw [H1.out]
      exact ⟨rfl, rfl⟩

set_option maxHeartbeats 1000000 in
theorem equalBytes_yes (b1 o1 c1 b2 o2 c2 m : Nat) (f : Nat → Int) (w : World) (hm : m ≤ 1048576) (h1 : ∀ k, k < m → w.cell? ⟨b1, o1 + k, none⟩ = some (.int .u8 (f k))) (h2 : ∀ k, k < m → w.cell? ⟨b2, o2 + k, none⟩ = some (.int .u8 (f k))) :
    Calls Try.prog 14 #[.slice (some ⟨b1, o1, none⟩) m c1, .slice (some ⟨b2, o2, none⟩) m c2] w fun e w' => e = .returned (.bool true) ∧ ∃ q, w' = w.drewN q := by
  go_enter Try.func14, Try.ntmps14
  go_wp2
  go_loopg [5] m (fun g v wr => ∃ k : Nat, g = m - k ∧ v = .int .i64 k ∧ k ≤ m ∧ ∃ q, wr = w.drewN q)
  case atStart => exact ⟨0, rfl, rfl, Nat.zero_le _, 0, rfl⟩
  case round =>
    obtain ⟨k, hg, rfl, l1, q, hq⟩ := hrel
    have A : Aside (gk = m - k ∧ wr = w.drewN q) := ⟨hg, hq⟩
    by_cases hk : k < m
    · have g1 : wr.cell? ⟨b1, o1 + k, none⟩ = some (.int .u8 (f k)) := by rw [hq]; exact h1 k hk
      have g2 : wr.cell? ⟨b2, o2 + k, none⟩ = some (.int .u8 (f k)) := by rw [hq]; exact h2 k hk
      have hz : (k : Int) < (m : Int) := by omega
      clear hg hq h1 h2
      go_wp2
      go_quiet (fail)
      go_wp2
      go_roundg (m - (k + 1))
      case measure => have := A.out.1; omega
      case rel => exact ⟨k + 1, rfl, by go_num, by omega, q + nq, by rw [A.out.2, World.drewN_drewN]⟩
    · clear hg hq h1 h2
      go_wp2
      go_ret
      exact ⟨rfl, q, A.out.2⟩

end Go.Proofs.Qxb6603699a
