import Derived.Test.Qxb6603699aStr
import Derived.Laws.Runes
import Derived.WalkMore
import Derived.Scope
namespace Go.Proofs.Qxb6603699a
open Go.RowKit

def stops3 : ByteArray := { data := #[44, 93, 125] }
def in3 (c : Int) : Bool := c == 44 || c == 93 || c == 125

theorem idx3 (c : Int) (h : 0 ≤ c ∧ c ≤ 255) : (0 ≤ Lib.indexByte [44, 93, 125] c.toNat.toUInt8) = (in3 c = true) := by
  have hb : ∀ k : Nat, k < 256 → ((UInt8.ofNat k == c.toNat.toUInt8) = decide (c = k)) := by
    intro k hk
    by_cases e : c = k
    · subst e; simp
    · have : UInt8.ofNat k ≠ c.toNat.toUInt8 := fun he => e (by
        have := congrArg UInt8.toNat he
        simp at this
        omega)
      simp [e, this]
  have h1 := hb 44 (by omega)
  have h2 := hb 93 (by omega)
  have h3 := hb 125 (by omega)
  simp only [Lib.indexByte, show (44 : UInt8) = UInt8.ofNat 44 from rfl, show (93 : UInt8) = UInt8.ofNat 93 from rfl, show (125 : UInt8) = UInt8.ofNat 125 from rfl, h1, h2, h3, in3]
  by_cases e1 : c = 44
  · subst e1; simp
  · by_cases e2 : c = 93
    · subst e2; simp
    · by_cases e3 : c = 125
      · subst e3; simp
      · simp [e1, e2, e3]

set_option maxHeartbeats 400000 in
theorem idxByteStr_any (s : ByteArray) (c : Int) (w : World) :
    Calls Try.prog 52 #[.string s, .int .u8 c] w fun e w' => e = .returned (.int .i64 (Lib.indexByte s.data.toList c.toNat.toUInt8)) ∧ w' = w := by
  have hr := Lib.run_indexByteString (P := Try.prog) s c
  have hx := run_callFunc_extern Try.func57 (by kernel_rfl) (by kernel_rfl) (by kernel_rfl) (e := Extern.BytealgIndexByte.indexByte) (by kernel_rfl) (P := Try.prog)
  go_enter Try.func52, Try.ntmps52
  go_wp2
  go_ret
  exact ⟨rfl, rfl⟩

set_option maxHeartbeats 1000000 in
set_option maxRecDepth 100000 in
theorem idxRune_ascii (s : ByteArray) (c : Int) (w : World) (h : 0 ≤ c ∧ c < 128) :
    Calls Try.prog 48 #[.string s, .int .i32 c] w fun e w' => e = .returned (.int .i64 (Lib.indexByte s.data.toList c.toNat.toUInt8)) ∧ w' = w := by
  obtain ⟨h0, h1⟩ := h
  go_enter Try.func48, Try.ntmps48
  go_wp2_with (go_at_call 52; refine (idxByteStr_any _ _ _).mono ?_; rintro e w' ⟨rfl, rfl⟩)
  go_ret
  exact ⟨rfl, rfl⟩

theorem enc2 (r : Int) (h0 : 128 ≤ r) (h1 : r ≤ 255) : ∃ b0 b1 : UInt8, Utf8.encode r = ⟨#[b0, b1]⟩ ∧ 128 ≤ b1.toNat := by
  have hc : ¬ r.toNat < 128 := by omega
  have hd : r.toNat < 2048 := by omega
  have hv : Utf8.valid r = true := by simp [Utf8.valid]; omega
  refine ⟨UInt8.ofNat (192 + r.toNat / 64), UInt8.ofNat (128 + r.toNat % 64), ?_, ?_⟩
  · unfold Utf8.encode
    simp only [hv, if_true, hc, if_false, hd]
  · simp; omega

set_option maxHeartbeats 1000000 in
set_option maxRecDepth 100000 in
theorem idxRune_two (r : Int) (w : World) (h0 : 128 ≤ r) (h1 : r ≤ 255) :
    Calls Try.prog 48 #[.string stops3, .int .i32 r] w fun e w' => e = .returned (.int .i64 (-1)) ∧ ∃ m, w' = w.drewN m := by
  obtain ⟨b0, b1, henc, hb1⟩ := enc2 r h0 h1
  unfold stops3
  have hw2 : IntKind.i64.wrap 2 = 2 := by decide
  have hne : (((({ data := #[44, 93, 125] } : ByteArray)[1]'(by decide)).toNat : Int) != ((({ data := #[b0, b1] } : ByteArray)[1]'(by show 1 < 2; decide)).toNat : Int)) = true := by
    show (((93 : UInt8).toNat : Int) != (b1.toNat : Int)) = true
    rw [bne_iff_ne]
    show ((93 : Nat) : Int) ≠ _
    omega
  have hix : Lib.indexByte [125] (({ data := #[b0, b1] } : ByteArray)[1]'(by show 1 < 2; decide)) < 0 := by
    show Lib.indexByte [125] b1 < 0
    have hb : ((125 : UInt8) == b1) = false := by
      rw [beq_eq_false_iff_ne]
      intro h
      rw [← h] at hb1
      revert hb1
      decide
    simp [Lib.indexByte, hb]
  go_enter Try.func48, Try.ntmps48
  go_wp2
  go_step3
  go_wp2
  go_loopg [9] 0 (fun _ v wr => v = .int .i64 1 ∧ ∃ m, wr = w.drewN m)
  case atStart => exact ⟨rfl, 0, rfl⟩
  case round =>
    obtain ⟨rfl, hm⟩ := hrel
    go_wp2
    go_step3
    go_wp2
    go_quiet (fail)
    obtain ⟨m, hm⟩ := hm
    have hex : ∃ m', wr.drewN nq = w.drewN m' := ⟨m + nq, by rw [hm, World.drewN_drewN]⟩
    clear hm
    generalize wr.drewN nq = wq at hex ⊢
    go_wp2
    go_quiet ((go_at_call 52; exact Calls.quiet_of_same (idxByteStr_any _ _ _)))
    go_wp2
    rw [Exit.noGoto_ret]
    go_wp2
    rw [Exit.noGoto_ret]
    go_wp2
    go_ret
    obtain ⟨m, hm⟩ := hex
    exact ⟨rfl, m + nq, by rw [hm, World.drewN_drewN]⟩

set_option maxHeartbeats 400000 in
theorem contains_any (c : Int) (w : World) (h : 0 ≤ c ∧ c ≤ 255) :
    Calls Try.prog 41 #[.string { data := #[44, 93, 125] }, .int .i32 c] w fun e w' => e = .returned (.bool (in3 c)) ∧ ∃ m, w' = w.drewN m := by
  by_cases h1 : c < 128
  · have hi := idx3 c h
    have HI : Hid ((0 ≤ Lib.indexByte [44, 93, 125] c.toNat.toUInt8) = (in3 c = true)) := hi
    clear hi
    go_enter Try.func41, Try.ntmps41
    go_wp2_with (go_at_call 48; refine (idxRune_ascii _ _ _ ⟨h.1, h1⟩).mono ?_; rintro e w' ⟨rfl, rfl⟩)
    go_ret
    refine ⟨?_, 0, rfl⟩
    have e : decide (0 ≤ Lib.indexByte [44, 93, 125] c.toNat.toUInt8) = in3 c := by
      rw [Bool.eq_iff_iff, decide_eq_true_iff, HI.out]
    rw [← e]
    rfl
  · have hin : in3 c = false := by simp [in3]; omega
    have HI : Hid (in3 c = false) := hin
    clear hin
    have hc := idxRune_two c w (by omega) h.2
    have HC : Hid (Calls Try.prog 48 #[.string stops3, .int .i32 c] w fun e w' => e = .returned (.int .i64 (-1)) ∧ ∃ m, w' = w.drewN m) := hc
    clear hc
    go_enter Try.func41, Try.ntmps41
    go_wp2_with (go_at_call 48; refine (HC.out).mono ?_; rintro e w' ⟨rfl, hm⟩)
    go_ret
    rw [HI.out]
    exact ⟨rfl, hm⟩
end Go.Proofs.Qxb6603699a
