import Derived.Test.Qxb6603719aProg
import Derived.WalkKit
import Derived.WalkSpells
import Derived.WalkLawsBesides
import Derived.Deep.QuietTactic
import Derived.BigQuiet
import Derived.Deep.LoopGhost
import Derived.Lib.SliceRun
import Derived.Laws.Runes
import Derived.Lib.BytesEntry
import Derived.Lib.Walk
import Derived.Deep.LoopGhost
import Derived.Scope
namespace Go.Proofs.Qxb6603719a
open Go.RowKit

def isPunct (c : Int) : Bool := c == 61 || c == 33 || c == 44 || c == 40 || c == 41
/-- A word's byte. -/
def okc (c : Int) : Bool := !(c == 32 || isPunct c)
/-- The byte at i, 0 behind the end. -/
def bt (s : ByteArray) (i : Nat) : Int := if h : i < s.size then (s[i].toNat : Int) else 0

theorem bt_eq (s : ByteArray) (i : Nat) (h : i < s.size) : (s[i].toNat : Int) = bt s i := by simp [bt, h]

/-- selToken, plainly. -/
def tok (s : ByteArray) : Bool :=
  (s.toList == [61, 61] || s.toList == [33, 61]) || ((s.size == 1 && isPunct (bt s 0)) || (!(s.size == 0) && decide (∀ i, i < s.size → okc (bt s i) = true)))

set_option maxHeartbeats 400000 in
theorem selPunct_any (c : Int) (w : World) :
    Calls Try.prog 19 #[.int .u8 c] w fun e w' => e = .returned (.bool (isPunct c)) ∧ w' = w := by
  unfold isPunct
  rcases Bool.eq_false_or_eq_true (c == 61) with h1 | h1
  · rw [h1]
    go_enter Try.func19, Try.ntmps19
    go_wp2
    go_ret
    exact ⟨rfl, rfl⟩
  rcases Bool.eq_false_or_eq_true (c == 33) with h2 | h2
  · rw [h1, h2]
    go_enter Try.func19, Try.ntmps19
    go_wp2
    go_ret
    exact ⟨rfl, rfl⟩
  rcases Bool.eq_false_or_eq_true (c == 44) with h3 | h3
  · rw [h1, h2, h3]
    go_enter Try.func19, Try.ntmps19
    go_wp2
    go_ret
    exact ⟨rfl, rfl⟩
  rcases Bool.eq_false_or_eq_true (c == 40) with h4 | h4
  · rw [h1, h2, h3, h4]
    go_enter Try.func19, Try.ntmps19
    go_wp2
    go_ret
    exact ⟨rfl, rfl⟩
  rcases Bool.eq_false_or_eq_true (c == 41) with h5 | h5
  · rw [h1, h2, h3, h4, h5]
    go_enter Try.func19, Try.ntmps19
    go_wp2
    go_ret
    exact ⟨rfl, rfl⟩
  · rw [h1, h2, h3, h4, h5]
    go_enter Try.func19, Try.ntmps19
    go_wp2
    go_ret
    exact ⟨rfl, rfl⟩

def punct5 : ByteArray := { data := #[61, 33, 44, 40, 41] }

theorem idx5 (c : Int) (h : 0 ≤ c ∧ c ≤ 255) : decide (0 ≤ Lib.indexByte [61, 33, 44, 40, 41] c.toNat.toUInt8) = isPunct c := by
  have hb : ∀ k : Nat, k < 256 → ((UInt8.ofNat k == c.toNat.toUInt8) = decide (c = k)) := by
    intro k hk
    by_cases e : c = k
    · subst e; simp
    · have : UInt8.ofNat k ≠ c.toNat.toUInt8 := fun he => e (by
        have := congrArg UInt8.toNat he
        simp at this
        omega)
      simp [e, this]
  have h1 := hb 61 (by omega)
  have h2 := hb 33 (by omega)
  have h3 := hb 44 (by omega)
  have h4 := hb 40 (by omega)
  have h5 := hb 41 (by omega)
  simp only [Lib.indexByte, show (61 : UInt8) = UInt8.ofNat 61 from rfl, show (33 : UInt8) = UInt8.ofNat 33 from rfl, show (44 : UInt8) = UInt8.ofNat 44 from rfl, show (40 : UInt8) = UInt8.ofNat 40 from rfl, show (41 : UInt8) = UInt8.ofNat 41 from rfl, h1, h2, h3, h4, h5, isPunct]
  by_cases e1 : c = 61
  · subst e1; simp
  by_cases e2 : c = 33
  · subst e2; simp
  by_cases e3 : c = 44
  · subst e3; simp
  by_cases e4 : c = 40
  · subst e4; simp
  by_cases e5 : c = 41
  · subst e5; simp
  · simp [e1, e2, e3, e4, e5]

set_option maxHeartbeats 400000 in
theorem idxLite_any (s : ByteArray) (c : Int) (w : World) :
    Calls Try.prog 23 #[.string s, .int .u8 c] w fun e w' => e = .returned (.int .i64 (Lib.indexByte s.data.toList c.toNat.toUInt8)) ∧ w' = w := by
  have hr := Lib.run_indexByteString (P := Try.prog) s c
  have hx := run_callFunc_extern Try.func24 (by kernel_rfl) (by kernel_rfl) (by kernel_rfl) (e := Extern.BytealgIndexByte.indexByte) (by kernel_rfl) (P := Try.prog)
  go_enter Try.func23, Try.ntmps23
  go_wp2
  go_ret
  exact ⟨rfl, rfl⟩

set_option maxHeartbeats 400000 in
theorem idxByte_any (s : ByteArray) (c : Int) (w : World) :
    Calls Try.prog 21 #[.string s, .int .u8 c] w fun e w' => e = .returned (.int .i64 (Lib.indexByte s.data.toList c.toNat.toUInt8)) ∧ w' = w := by
  go_enter Try.func21, Try.ntmps21
  go_wp2_with (go_at_call 23; refine (idxLite_any _ _ _).mono ?_; rintro e w' ⟨rfl, rfl⟩)
  go_ret
  exact ⟨rfl, rfl⟩

/-- IndexByte over the punctuation: a number whose sign says whether c is one of them. -/
theorem idxPunct (c : Int) (w : World) (h : 0 ≤ c ∧ c ≤ 255) :
    Calls Try.prog 21 #[.string { data := #[61, 33, 44, 40, 41] }, .int .u8 c] w fun e w' => (∃ r : Int, e = .returned (.int .i64 r) ∧ decide (0 ≤ r) = isPunct c ∧ decide (r < 0) = !isPunct c) ∧ w' = w := by
  refine (idxByte_any _ _ _).mono ?_
  rintro e w' ⟨rfl, rfl⟩
  have h5 := idx5 c h
  refine ⟨⟨_, rfl, h5, ?_⟩, rfl⟩
  rw [← h5]
  show decide (Lib.indexByte [61, 33, 44, 40, 41] c.toNat.toUInt8 < 0) = _
  by_cases e : 0 ≤ Lib.indexByte [61, 33, 44, 40, 41] c.toNat.toUInt8
  · simp [e]
  · have e' : Lib.indexByte [61, 33, 44, 40, 41] c.toNat.toUInt8 < 0 := by omega
    simp [e, e']

set_option maxHeartbeats 400000 in
set_option maxRecDepth 100000 in
theorem selToken_any (s : ByteArray) (w : World) (hs : s.size ≤ 1000000) :
    Calls Try.prog 15 #[.string s] w fun e w' => e = .returned (.bool (tok s)) ∧ w' = w := by
  unfold tok
  rcases Bool.eq_false_or_eq_true (s.toList == [61, 61]) with h1 | h1
  · rw [h1]
    go_enter Try.func15, Try.ntmps15
    go_wp2
    go_ret
    exact ⟨rfl, rfl⟩
  rcases Bool.eq_false_or_eq_true (s.toList == [33, 61]) with h2 | h2
  · rw [h1, h2]
    go_enter Try.func15, Try.ntmps15
    go_wp2
    go_ret
    exact ⟨rfl, rfl⟩
  rw [h1, h2]
  by_cases hz : s.size = 0
  · have hf : ((false || false) || ((s.size == 1 && isPunct (bt s 0)) || (!(s.size == 0) && decide (∀ i, i < s.size → okc (bt s i) = true)))) = false := by simp [hz]
    rw [hf]
    clear hf
    have hz1 : ¬ s.size = 1 := by omega
    go_enter Try.func15, Try.ntmps15
    go_wp2
    go_ret
    exact ⟨rfl, rfl⟩
  have h0 : 0 < s.size := by omega
  by_cases hp : s.size = 1 ∧ isPunct (bt s 0) = true
  · obtain ⟨hs1, hp⟩ := hp
    have hf : ((false || false) || ((s.size == 1 && isPunct (bt s 0)) || (!(s.size == 0) && decide (∀ i, i < s.size → okc (bt s i) = true)))) = true := by simp [hs1, hp]
    rw [hf]
    clear hf
    rw [← bt_eq s 0 h0] at hp
    go_enter Try.func15, Try.ntmps15
    go_wp2_with (go_at_call 19; refine (selPunct_any _ _).mono ?_; rintro e w' ⟨rfl, rfl⟩)
    go_ret
    exact ⟨rfl, rfl⟩
  have hf : ((false || false) || ((s.size == 1 && isPunct (bt s 0)) || (!(s.size == 0) && decide (∀ i, i < s.size → okc (bt s i) = true)))) = decide (∀ i, i < s.size → okc (bt s i) = true) := by
    have : (s.size == 1 && isPunct (bt s 0)) = false := by
      rw [Bool.eq_false_iff]
      intro h
      apply hp
      simpa using h
    rw [this]
    simp [hz]
  rw [hf]
  clear hf
  generalize hR : decide (∀ i, i < s.size → okc (bt s i) = true) = R
  have HR : Hid (R = decide (∀ i, i < s.size → okc (bt s i) = true)) := hR.symm
  clear hR
  by_cases hs1 : s.size = 1
  · have hpf : isPunct (s[0].toNat : Int) = false := by
      rw [bt_eq s 0 h0, Bool.eq_false_iff]
      exact fun h => hp ⟨hs1, h⟩
    clear hp
    go_enter Try.func15, Try.ntmps15
    go_wp2_with (go_at_call 19; refine (selPunct_any _ _).mono ?_; rintro e w' ⟨rfl, rfl⟩)
    go_loop [3] (fun i => ∃ k : Nat, k ≤ s.size ∧ i = .int .i64 k ∧ Hid (∀ j, j < k → okc (bt s j) = true)) (fun i => s.size - (intOf i).toNat)
    case atStart => exact ⟨0, Nat.zero_le _, rfl, (fun j hj => absurd hj (by omega))⟩
    case round =>
      obtain ⟨k, hk, rfl, hq⟩ := hrel
      by_cases hlt : k < s.size
      · have hbk := bt_eq s k hlt
        have HB : Hid ((s[k].toNat : Int) = bt s k) := hbk
        clear hbk
        rcases Bool.eq_false_or_eq_true ((s[k].toNat : Int) == 32) with g1 | g1
        · have HF : Hid (R = false) := HR.out.trans (decide_eq_false (fun h => by
            have := h k hlt
            rw [okc, ← HB.out, g1] at this
            simp at this))
          go_wp2
          go_ret
          exact ⟨by rw [HF.out]; rfl, rfl⟩
        · rcases Bool.eq_false_or_eq_true (isPunct (s[k].toNat : Int)) with g2 | g2
          · have HF : Hid (R = false) := HR.out.trans (decide_eq_false (fun h => by
              have := h k hlt
              rw [okc, ← HB.out, g1, g2] at this
              simp at this))
            go_wp2_with (go_at_call 19; refine (selPunct_any _ _).mono ?_; rintro e w' ⟨rfl, rfl⟩)
            go_ret
            exact ⟨by rw [HF.out]; rfl, rfl⟩
          · have HG : Hid (∀ j, j < k + 1 → okc (bt s j) = true) := fun j hj => by
              by_cases e : j = k
              · subst e; rw [okc, ← HB.out, g1, g2]; rfl
              · exact hq.out j (by omega)
            go_wp2_with (go_at_call 19; refine (selPunct_any _ _).mono ?_; rintro e w' ⟨rfl, rfl⟩)
            go_round
            case rel => exact ⟨k + 1, by omega, by go_num, HG⟩
            case measure => simp [intOf]; omega
      · have HF : Hid (R = true) := HR.out.trans (decide_eq_true (fun i hi => hq.out i (by omega)))
        go_wp2
        go_ret
        exact ⟨by rw [HF.out]; rfl, rfl⟩
  · clear hp
    have hs2 : ((s.size : Int) == 1) = false := by rw [beq_eq_false_iff_ne]; omega
    have hs3 : ((s.size : Int) == 0) = false := by rw [beq_eq_false_iff_ne]; omega
    go_enter Try.func15, Try.ntmps15
    go_wp2_with (go_at_call 19; refine (selPunct_any _ _).mono ?_; rintro e w' ⟨rfl, rfl⟩)
    go_loop [3] (fun i => ∃ k : Nat, k ≤ s.size ∧ i = .int .i64 k ∧ Hid (∀ j, j < k → okc (bt s j) = true)) (fun i => s.size - (intOf i).toNat)
    case atStart => exact ⟨0, Nat.zero_le _, rfl, (fun j hj => absurd hj (by omega))⟩
    case round =>
      obtain ⟨k, hk, rfl, hq⟩ := hrel
      by_cases hlt : k < s.size
      · have hbk := bt_eq s k hlt
        have HB : Hid ((s[k].toNat : Int) = bt s k) := hbk
        clear hbk
        rcases Bool.eq_false_or_eq_true ((s[k].toNat : Int) == 32) with g1 | g1
        · have HF : Hid (R = false) := HR.out.trans (decide_eq_false (fun h => by
            have := h k hlt
            rw [okc, ← HB.out, g1] at this
            simp at this))
          go_wp2
          go_ret
          exact ⟨by rw [HF.out]; rfl, rfl⟩
        · rcases Bool.eq_false_or_eq_true (isPunct (s[k].toNat : Int)) with g2 | g2
          · have HF : Hid (R = false) := HR.out.trans (decide_eq_false (fun h => by
              have := h k hlt
              rw [okc, ← HB.out, g1, g2] at this
              simp at this))
            go_wp2_with (go_at_call 19; refine (selPunct_any _ _).mono ?_; rintro e w' ⟨rfl, rfl⟩)
            go_ret
            exact ⟨by rw [HF.out]; rfl, rfl⟩
          · have HG : Hid (∀ j, j < k + 1 → okc (bt s j) = true) := fun j hj => by
              by_cases e : j = k
              · subst e; rw [okc, ← HB.out, g1, g2]; rfl
              · exact hq.out j (by omega)
            go_wp2_with (go_at_call 19; refine (selPunct_any _ _).mono ?_; rintro e w' ⟨rfl, rfl⟩)
            go_round
            case rel => exact ⟨k + 1, by omega, by go_num, HG⟩
            case measure => simp [intOf]; omega
      · have HF : Hid (R = true) := HR.out.trans (decide_eq_true (fun i hi => hq.out i (by omega)))
        go_wp2
        go_ret
        exact ⟨by rw [HF.out]; rfl, rfl⟩
end Go.Proofs.Qxb6603719a
