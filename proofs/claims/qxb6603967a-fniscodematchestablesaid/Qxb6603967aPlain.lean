import Derived.Test.Qxb6603967aProg
import Derived.WalkKit
import Derived.WalkSpells
import Derived.WalkLawsBesides
import Derived.Deep.QuietTactic
import Derived.BigQuiet
import Derived.Deep.LoopGhost
import Derived.Lib.SliceRun
import Derived.Laws.Runes
import Derived.Lib.BytesEntry
import Derived.Lib.Walk
import Derived.Lib.ConvBytes
import Derived.Deep.OwnRows
import Derived.Deep.WholeRow
import Derived.Laws.Rows
import Derived.Laws.Tables
import Derived.Scope
namespace Go.Proofs.Qxb6603967a
open Go.RowKit

/-- The byte at i, 0 behind the end. -/
def bt (s : ByteArray) (i : Nat) : Int := if h : i < s.size then (s[i].toNat : Int) else 0
theorem bt_eq (s : ByteArray) (i : Nat) (h : i < s.size) : (s[i].toNat : Int) = bt s i := by simp [bt, h]

/-- Is c one of the first k bytes of s? -/
def among (s : ByteArray) (k : Nat) (c : Int) : Bool := decide (∃ j, j < k ∧ bt s j = c)

theorem among_zero (s : ByteArray) (c : Int) : among s 0 c = false := decide_eq_false (fun ⟨j, h, _⟩ => by omega)
theorem among_succ (s : ByteArray) (k : Nat) (c : Int) : among s (k + 1) c = (among s k c || decide (bt s k = c)) := by
  unfold among
  rw [← Bool.decide_or]
  rw [decide_eq_decide]
  constructor
  · rintro ⟨j, h, e⟩
    by_cases h' : j = k
    · subst h'; exact Or.inr e
    · exact Or.inl ⟨j, by omega, e⟩
  · rintro (⟨j, h, e⟩ | e)
    · exact ⟨j, by omega, e⟩
    · exact ⟨k, by omega, e⟩

abbrev alnum62 : ByteArray := { data := #[65, 66, 67, 68, 69, 70, 71, 72, 73, 74, 75, 76, 77, 78, 79, 80, 81, 82, 83, 84, 85, 86, 87, 88, 89, 90, 97, 98, 99, 100, 101, 102, 103, 104, 105, 106, 107, 108, 109, 110, 111, 112, 113, 114, 115, 116, 117, 118, 119, 120, 121, 122, 48, 49, 50, 51, 52, 53, 54, 55, 56, 57] }

def up (c : Int) : Bool := decide (65 ≤ c) && decide (c ≤ 90)
def low (c : Int) : Bool := decide (97 ≤ c) && decide (c ≤ 122)
def dig (c : Int) : Bool := decide (48 ≤ c) && decide (c ≤ 57)
def alnumC (c : Int) : Bool := up c || (low c || dig c)

theorem among_alnum : ∀ c : Nat, c < 256 → among alnum62 62 (c : Int) = alnumC (c : Int) := by
  decide +kernel

/-- The table. -/
def tab (o : ByteArray) (c : Int) : Bool := alnumC c || among o o.size c

/-- isCode, plainly. -/
def isCodeF (s : ByteArray) (most : Int) (o : ByteArray) : Bool :=
  decide (1 ≤ s.size) && (decide ((s.size : Int) ≤ most) && decide (∀ i, i < s.size → tab o (bt s i) = true))

theorem toNat_bt (s : ByteArray) (j : Nat) (hj : j < s.data.toList.length) : bt s j = (s.data.toList[j].toNat : Int) := by
  have h' : j < s.size := by simpa using hj
  rw [← bt_eq s j h']
  rfl

theorem idx_mem (b : UInt8) : ∀ l : List UInt8, 0 ≤ Lib.indexByte l b ↔ b ∈ l
  | [] => by simp [Lib.indexByte]
  | x :: l => by
    have ih := idx_mem b l
    have hg := Lib.indexByte_ge l b
    unfold Lib.indexByte
    by_cases e : x == b
    · rw [if_pos e]
      simp at e
      simp [e]
    · rw [if_neg e]
      simp at e
      have e' : ¬ b = x := fun h => e h.symm
      by_cases h : Lib.indexByte l b = -1
      · rw [h] at ih ⊢
        simp [e', ← ih]
      · rw [if_neg (by simpa using h)]
        simp only [List.mem_cons, e', false_or, ← ih]
        omega

theorem idx_among (s : ByteArray) (c : Int) (h : 0 ≤ c ∧ c ≤ 255) : decide (0 ≤ Lib.indexByte s.data.toList c.toNat.toUInt8) = among s s.size c := by
  unfold among
  rw [decide_eq_decide, idx_mem, List.mem_iff_getElem]
  have hc : (c.toNat.toUInt8.toNat : Int) = c := by
    simp
    omega
  constructor
  · rintro ⟨j, hj, e⟩
    refine ⟨j, by simpa using hj, ?_⟩
    rw [toNat_bt s j hj, e]
    exact hc
  · rintro ⟨j, hj, e⟩
    have hj' : j < s.data.toList.length := by simpa using hj
    refine ⟨j, hj', ?_⟩
    rw [toNat_bt s j hj'] at e
    apply UInt8.toNat_inj.1
    omega

set_option maxHeartbeats 400000 in
theorem idxLite_any (s : ByteArray) (c : Int) (w : World) :
    Calls Try.prog 13 #[.string s, .int .u8 c] w fun e w' => e = .returned (.int .i64 (Lib.indexByte s.data.toList c.toNat.toUInt8)) ∧ w' = w := by
  have hr := Lib.run_indexByteString (P := Try.prog) s c
  have hx := run_callFunc_extern Try.func14 (by kernel_rfl) (by kernel_rfl) (by kernel_rfl) (e := Extern.BytealgIndexByte.indexByte) (by kernel_rfl) (P := Try.prog)
  go_enter Try.func13, Try.ntmps13
  go_wp2
  go_ret
  exact ⟨rfl, rfl⟩

set_option maxHeartbeats 400000 in
theorem idxByte_any (s : ByteArray) (c : Int) (w : World) :
    Calls Try.prog 12 #[.string s, .int .u8 c] w fun e w' => e = .returned (.int .i64 (Lib.indexByte s.data.toList c.toNat.toUInt8)) ∧ w' = w := by
  go_enter Try.func12, Try.ntmps12
  go_wp2_with (go_at_call 13; refine (idxLite_any _ _ _).mono ?_; rintro e w' ⟨rfl, rfl⟩)
  go_ret
  exact ⟨rfl, rfl⟩

/-- IndexByte: a number whose sign says whether c is among the bytes. -/
theorem idxAmong (s : ByteArray) (c : Int) (w : World) (h : 0 ≤ c ∧ c ≤ 255) :
    Calls Try.prog 12 #[.string s, .int .u8 c] w fun e w' => (∃ r : Int, e = .returned (.int .i64 r) ∧ decide (0 ≤ r) = among s s.size c) ∧ w' = w := by
  refine (idxByte_any _ _ _).mono ?_
  rintro e w' ⟨rfl, rfl⟩
  exact ⟨⟨_, rfl, idx_among s c h⟩, rfl⟩

set_option maxHeartbeats 400000 in
theorem zzBytes_yes (a0 a2 : ByteArray) (a1 : Int) (w : World) (h0 : a0.size ≤ 262144) (h1 : a2.size ≤ 262144) :
    Calls Try.prog 5 #[.string a0, .int .i64 a1, .string a2] w fun e w' => e = .returned (.bool true) ∧ w' = w := by
  go_enter Try.func5, Try.ntmps5
  go_wp2
  go_ret
  exact ⟨rfl, rfl⟩

set_option maxHeartbeats 400000 in
theorem zzBytes_any (a0 a2 : ByteArray) (a1 : Int) (w : World) (h0 : a0.size ≤ maxLen) (h1 : a2.size ≤ maxLen) :
    Calls Try.prog 5 #[.string a0, .int .i64 a1, .string a2] w fun e w' => (∃ b, e = .returned (.bool b)) ∧ w' = w := by
  unfold maxLen at h0 h1
  by_cases e0 : a0.size ≤ 1048576
  · by_cases e1 : a2.size ≤ 1048576
    · by_cases e2 : a0.size + a2.size ≤ 1048576
      all_goals
        go_enter Try.func5, Try.ntmps5
        go_wp2
        go_ret
        exact ⟨⟨_, rfl⟩, rfl⟩
    · go_enter Try.func5, Try.ntmps5
      go_wp2
      go_ret
      exact ⟨⟨_, rfl⟩, rfl⟩
  · go_enter Try.func5, Try.ntmps5
    go_wp2
    go_ret
    exact ⟨⟨_, rfl⟩, rfl⟩
end Go.Proofs.Qxb6603967a
