import Derived.Test.Qxb6604411aProg
import Derived.WalkKit
import Derived.WalkSpells
import Derived.WalkLawsBesides
import Derived.Deep.QuietTactic
import Derived.BigQuiet
import Derived.Deep.OwnRows
import Derived.Deep.LoopGhost
import Derived.Lib.SliceRun
import Derived.Lib.BytesEntry
import Derived.Lib.Walk
import Derived.Laws.Runes
import Derived.Scope
namespace Go.Proofs.Qxb6604411a
open Go.RowKit

def isSp (c : Int) : Bool := c == 32 || c == 9 || c == 13 || c == 10

def skF (t : Nat → Int) : Nat → Nat → Nat
  | 0, p => p
  | f + 1, p => if isSp (t p) = true then skF t f (p + 1) else p

/-- past the white space from p on -/
def skip (t : Nat → Int) (n p : Nat) : Nat := skF t (n - p) p

theorem skF_bd (t : Nat → Int) : ∀ f p, p ≤ skF t f p ∧ skF t f p ≤ p + f
  | 0, p => by simp [skF]
  | f + 1, p => by
    unfold skF
    split
    · have := skF_bd t f (p + 1); omega
    · omega

theorem skip_bd (t : Nat → Int) (n p : Nat) (h : p ≤ n) : p ≤ skip t n p ∧ skip t n p ≤ n := by
  have := skF_bd t (n - p) p
  unfold skip
  omega

theorem skip_sp (t : Nat → Int) (n p : Nat) (h : p < n) (hs : isSp (t p) = true) : skip t n p = skip t n (p + 1) := by
  unfold skip
  rw [show n - p = (n - (p + 1)) + 1 by omega]
  simp [skF, hs]

theorem skip_stop (t : Nat → Int) (n p : Nat) (hs : isSp (t p) = false) : skip t n p = p := by
  unfold skip
  cases n - p with
  | zero => rfl
  | succ f => simp [skF, hs]

theorem skip_end (t : Nat → Int) (n p : Nat) (h : n ≤ p) : skip t n p = p := by
  unfold skip
  rw [show n - p = 0 by omega]
  rfl

/-- The run's end is known by what lies before it and at it. -/
theorem skip_uniq (t : Nat → Int) (n r : Nat) (hr : r ≤ n) (he : r < n → isSp (t r) = false) : ∀ (f p : Nat), p + f = r → (∀ j, p ≤ j → j < r → isSp (t j) = true) → skip t n p = r
  | 0, p, h, _ => by
    obtain rfl : p = r := by omega
    by_cases hl : p < n
    · exact skip_stop t n p (he hl)
    · exact skip_end t n p (by omega)
  | f + 1, p, h, hq => by
    rw [skip_sp t n p (by omega) (hq p (Nat.le_refl _) (by omega))]
    exact skip_uniq t n r hr he f (p + 1) (by omega) (fun j h1 h2 => hq j (by omega) h2)

theorem skip_run (t : Nat → Int) (n : Nat) : ∀ (f p : Nat), p + f = n → (∀ j, p ≤ j → j < skip t n p → isSp (t j) = true) ∧ (skip t n p < n → isSp (t (skip t n p)) = false)
  | 0, p, h => by
    rw [skip_end t n p (by omega)]
    exact ⟨fun j h1 h2 => by omega, fun h => by omega⟩
  | f + 1, p, h => by
    cases hs : isSp (t p) with
    | true =>
      rw [skip_sp t n p (by omega) hs]
      have ih := skip_run t n f (p + 1) (by omega)
      refine ⟨fun j h1 h2 => ?_, ih.2⟩
      by_cases e : j = p
      · subst e; exact hs
      · exact ih.1 j (by omega) h2
    | false =>
      rw [skip_stop t n p hs]
      exact ⟨fun j h1 h2 => by omega, fun _ => hs⟩

theorem skip_mid (t : Nat → Int) (n p m : Nat) (hp : p ≤ n) (h1 : p ≤ m) (h2 : m ≤ skip t n p) : skip t n m = skip t n p := by
  have hr := skip_run t n (n - p) p (by omega)
  have hb := skip_bd t n p hp
  exact skip_uniq t n _ hb.2 hr.2 (skip t n p - m) m (by omega) (fun j a b => hr.1 j (by omega) b)

theorem skip_shift (t : Nat → Int) (n p : Nat) (hp : p ≤ n) : skip (fun k => t (p + k)) (n - p) 0 = skip t n p - p := by
  have hr := skip_run t n (n - p) p (by omega)
  have hb := skip_bd t n p hp
  refine skip_uniq _ _ _ (by omega) (fun h => ?_) (skip t n p - p) 0 (by omega) (fun j _ h => hr.1 _ (by omega) (by omega))
  show isSp (t (p + (skip t n p - p))) = false
  rw [show p + (skip t n p - p) = skip t n p by omega]
  exact hr.2 (by omega)

/-- Blocks other than b, the streams and the tape are as they were. -/
structure SameBut (b : Nat) (w w' : World) : Prop where
  os : w'.os = w.os
  tape : w'.tape = w.tape
  output : w'.output = w.output
  size : w'.heap.size = w.heap.size
  block : ∀ k, k ≠ b → w'.heap[k]? = w.heap[k]?

namespace SameBut
theorem refl (b : Nat) (w : World) : SameBut b w w := ⟨rfl, rfl, rfl, rfl, fun _ _ => rfl⟩
theorem trans {b : Nat} {w w' w'' : World} (h : SameBut b w w') (k : SameBut b w' w'') : SameBut b w w'' :=
  ⟨k.os.trans h.os, k.tape.trans h.tape, k.output.trans h.output, k.size.trans h.size, fun i hi => (k.block i hi).trans (h.block i hi)⟩
theorem drewN {b : Nat} {w w' : World} (h : SameBut b w w') (n : Nat) : SameBut b w (w'.drewN n) := ⟨h.os, h.tape, h.output, h.size, h.block⟩
theorem setCell {b : Nat} {w w' : World} (h : SameBut b w w') (o : Nat) (v : Value) : SameBut b w (w'.setCell ⟨b, o, none⟩ v) :=
  h.trans ⟨rfl, rfl, rfl, by simp [World.setCell], fun k hk => Below.heap_setCell _ _ _ _ hk⟩
theorem below {b B : Nat} {w w' : World} (h : SameBut b w w') (hB : B ≤ b) : Below B w w' := ⟨h.os, h.tape, h.output, Nat.le_of_eq h.size.symm, fun k hk => h.block k (by omega)⟩
end SameBut

theorem row_drewN {w : World} {b : Nat} {t : TypeId} {n : Nat} {f : Nat → Value} (h : w.rowIs b t n f) (m : Nat) : (w.drewN m).rowIs b t n f := h

theorem Try.info5 : (Try.prog.info? 5).map (fun i => (i.zero, i.size, i.bytes)) = some (some (.int .u8 0), 1, 1) := by kernel_rfl

theorem q22 (w : World) (a : Option Addr) (n c n' c' : Nat) : (binOp .eql 22 (.slice a n c) (.slice none n' c')).run Try.prog w = .ok (.bool a.isNone) w := Lib.run_eql_slice_nil w _ _ a n c n' c' Try.underlying22

set_option maxHeartbeats 400000 in
theorem clone_nil (w : World) :
    Calls Try.prog 6 #[.slice none 0 0] w fun e w' => e = .returned (.slice none 0 0) ∧ w' = w := by
  have qT := q22
  go_enter Try.func6, Try.ntmps6
  go_wp2
  go_ret
  exact ⟨rfl, rfl⟩

/-- The copy's loop, k cells copied. -/
structure CL (w wr : World) (n k : Nat) (t : Nat → Int) : Prop where
  below : Below w.heap.size w wr
  size : wr.heap.size = w.heap.size + 1
  row : wr.rowIs w.heap.size 5 n (fun j => if j < k then .int .u8 (t j) else .int .u8 0)

theorem CL.start (w : World) (n : Nat) (t : Nat → Int) : CL w (w.alloc (.cells (madeCells #[.int .u8 0] n) 5)) n 0 t :=
  ⟨(Below.refl _ _).alloc (Nat.le_refl _) _, by simp, (World.rowIs_made w _ n 5).congr (fun j _ => by simp)⟩

theorem CL.step {w wr : World} {n k : Nat} {t : Nat → Int} (h : CL w wr n k t) : CL w (wr.setCell ⟨w.heap.size, k, none⟩ (.int .u8 (t k))) n (k + 1) t := by
  refine ⟨h.below.setCell (Nat.le_refl _) _, by simp [h.size], (h.row.set k _).congr (fun j _ => ?_)⟩
  by_cases e : j = k
  · subst e; simp
  · rw [if_neg e]
    by_cases hlt : j < k
    · rw [if_pos hlt, if_pos (by omega)]
    · rw [if_neg hlt, if_neg (by omega)]

set_option maxHeartbeats 400000 in
theorem clone_any (b off : Nat) (sp : Option _) (n c : Nat) (t : Nat → Int) (w : World) (hn : n ≤ 1048576) (hc : ∀ k, k < n → sp = none ∧ w.cell? ⟨b, off + k, none⟩ = some (.int .u8 (t k))) :
    Calls Try.prog 6 #[.slice (some ⟨b, off, sp⟩) n c] w fun e w' => e = .returned (.slice (some ⟨w.heap.size, 0, none⟩) n n) ∧ CL w w' n n t := by
  have hmk := run_make_row' (P := Try.prog) 22 5 (.int .u8 0) 1 Try.underlying22 Try.info5 rfl .i64 .i64 n (by omega) (by omega)
  have qT := q22
  go_enter Try.func6, Try.ntmps6
  go_wp2
  clear hmk qT
  go_loopw [4] (fun i wr => ∃ k : Nat, k ≤ n ∧ i = .int .i64 k ∧ CL w wr n k t) (fun i _ => n - (intOf i).toNat)
  case atStart => exact ⟨0, Nat.zero_le _, rfl, CL.start w n t⟩
  case round =>
    obtain ⟨k, hk, rfl, hcl⟩ := hrel
    by_cases hlt : k < n
    · obtain ⟨rfl, hck⟩ := hc k hlt
      have hbl : b < w.heap.size := World.block_lt_of_cell? _ _ hck
      have hz : (k : Int) < (n : Int) := by omega
      have g0 : wr.cell? ⟨b, off + k, none⟩ = some (.int .u8 (t k)) := by rw [hcl.below.cell (p := ⟨b, off + k, none⟩) hbl]; exact hck
      have g1 := hcl.row.cell hlt
      have g2 := hcl.row.frozen k
      have R := hcl.step
      clear hc hck
      go_wp2
      go_roundw
      case rel => exact ⟨k + 1, by omega, by go_num, R⟩
      case measure => simp [intOf]; omega
    · go_wp2
      go_ret
      obtain rfl : k = n := by omega
      exact ⟨rfl, hcl⟩

set_option maxHeartbeats 400000 in
theorem zzIsSpace_any (c : Int) (w : World) :
    Calls Try.prog 8 #[.int .u8 c] w fun e w' => e = .returned (.bool (isSp c)) ∧ w' = w := by
  go_enter Try.func8, Try.ntmps8
  go_wp2
  all_goals go_ret
  all_goals exact ⟨by simp [isSp, *], rfl⟩

set_option maxHeartbeats 400000 in
theorem idxLite_any (s : ByteArray) (c : Int) (w : World) :
    Calls Try.prog 12 #[.string s, .int .u8 c] w fun e w' => e = .returned (.int .i64 (Lib.indexByte s.data.toList c.toNat.toUInt8)) ∧ w' = w := by
  have hr := Lib.run_indexByteString (P := Try.prog) s c
  have hx := run_callFunc_extern Try.func13 (by kernel_rfl) (by kernel_rfl) (by kernel_rfl) (e := Extern.BytealgIndexByte.indexByte) (by kernel_rfl) (P := Try.prog)
  go_enter Try.func12, Try.ntmps12
  go_wp2
  go_ret
  exact ⟨rfl, rfl⟩

set_option maxHeartbeats 400000 in
theorem idxByte_any (s : ByteArray) (c : Int) (w : World) :
    Calls Try.prog 11 #[.string s, .int .u8 c] w fun e w' => e = .returned (.int .i64 (Lib.indexByte s.data.toList c.toNat.toUInt8)) ∧ w' = w := by
  go_enter Try.func11, Try.ntmps11
  go_wp2_with (go_at_call 12; refine (idxLite_any _ _ _).mono ?_; rintro e w' ⟨rfl, rfl⟩)
  go_ret
  exact ⟨rfl, rfl⟩

theorem idx4 (c : Int) (h : 0 ≤ c ∧ c ≤ 255) : decide (0 ≤ Lib.indexByte [32, 9, 13, 10] c.toNat.toUInt8) = isSp c := by
  have hb : ∀ k : Nat, k < 256 → ((UInt8.ofNat k == c.toNat.toUInt8) = decide (c = k)) := by
    intro k hk
    by_cases e : c = k
    · subst e; simp
    · have : UInt8.ofNat k ≠ c.toNat.toUInt8 := fun he => e (by
        have := congrArg UInt8.toNat he
        simp at this
        omega)
      simp [e, this]
  have h1 := hb 32 (by omega)
  have h2 := hb 9 (by omega)
  have h3 := hb 13 (by omega)
  have h4 := hb 10 (by omega)
  simp only [Lib.indexByte, show (32 : UInt8) = UInt8.ofNat 32 from rfl, show (9 : UInt8) = UInt8.ofNat 9 from rfl, show (13 : UInt8) = UInt8.ofNat 13 from rfl, show (10 : UInt8) = UInt8.ofNat 10 from rfl, h1, h2, h3, h4, isSp]
  by_cases e1 : c = 32
  · subst e1; simp
  by_cases e2 : c = 9
  · subst e2; simp
  by_cases e3 : c = 13
  · subst e3; simp
  by_cases e4 : c = 10
  · subst e4; simp
  · simp [e1, e2, e3, e4]

/-- IndexByte over the white bytes: a number whose sign says whether c is one of them. -/
theorem idxSp (c : Int) (h : 0 ≤ c ∧ c ≤ 255) : ∃ r : Int, decide (0 ≤ r) = isSp c ∧ ∀ w : World, Calls Try.prog 11 #[.string { data := #[32, 9, 13, 10] }, .int .u8 c] w fun e w' => e = .returned (.int .i64 r) ∧ w' = w :=
  ⟨_, idx4 c h, fun w => idxByte_any _ c w⟩

/-- The scanner's two cells: its text, its place. -/
def scv (v : Value) (i : Int) : Nat → Value := fun j => if j = 0 then v else .int .i64 i

theorem scv_set {w : World} {sb : Nat} {v : Value} {i j : Int} (h : w.rowIs sb 29 2 (scv v i)) : (w.setCell ⟨sb, 1, none⟩ (.int .i64 j)).rowIs sb 29 2 (scv v j) :=
  (h.set 1 _).congr (fun k hk => by
    by_cases e : k = 1
    · subst e; simp [scv]
    · obtain rfl : k = 0 := by omega
      simp [scv])

theorem box_row (w : World) (v : Value) (i : Int) : (w.alloc (.cells #[v, .int .i64 i] 29)).rowIs w.heap.size 29 2 (scv v i) :=
  World.rowIs_alloc w #[v, .int .i64 i] 29 (scv v i) (fun k hk => by
    match k, hk with
    | 0, _ => rfl
    | 1, _ => rfl)

set_option maxHeartbeats 400000 in
/-- At or behind the end: the scanner stays. -/
theorem space_end (sb n c : Nat) (a : Option Addr) (i : Int) (w : World) (hi : (n : Int) ≤ i) (hS : w.rowIs sb 29 2 (scv (.slice a n c) i)) :
    Calls Try.prog 10 #[.pointer (some ⟨sb, 0, none⟩)] w fun e w' => e = .returned (.tuple #[]) ∧ SameBut sb w w' ∧ w'.rowIs sb 29 2 (scv (.slice a n c) i) := by
  have g0 : w.cell? ⟨sb, 0, none⟩ = some (.slice a n c) := hS.cell (i := 0) (by omega)
  have g1 : w.cell? ⟨sb, 1, none⟩ = some (.int .i64 i) := hS.cell (i := 1) (by omega)
  have hz : ¬ i < (n : Int) := by omega
  have hd : decide (i < (n : Int)) = false := decide_eq_false hz
  go_enter Try.func10, Try.ntmps10
  go_wp2
  go_loopg [2] 0 (fun _ _ wr => wr = w)
  case atStart => exact rfl
  case round =>
    subst hrel
    go_wp2
    go_quiet (fail)
    go_wp2
    go_end0
    exact ⟨rfl, (SameBut.refl sb _).drewN _, row_drewN hS _⟩

set_option maxHeartbeats 1000000 in
theorem space_any (sb tb off n c p0 : Nat) (t : Nat → Int) (w : World) (hn : n ≤ 1048576) (ht : ∀ k, 0 ≤ t k ∧ t k ≤ 255) (h0 : p0 ≤ n) (hne : tb ≠ sb) (hT : ∀ k, k < n → w.cell? ⟨tb, off + k, none⟩ = some (.int .u8 (t k))) (hS : w.rowIs sb 29 2 (scv (.slice (some ⟨tb, off, none⟩) n c) p0)) :
    Calls Try.prog 10 #[.pointer (some ⟨sb, 0, none⟩)] w fun e w' => e = .returned (.tuple #[]) ∧ SameBut sb w w' ∧ w'.rowIs sb 29 2 (scv (.slice (some ⟨tb, off, none⟩) n c) (skip t n p0 : Nat)) := by
  have HT : Hid (∀ k, k < n → w.cell? ⟨tb, off + k, none⟩ = some (.int .u8 (t k))) := hT
  have HB : Hid (∀ k, 0 ≤ t k ∧ t k ≤ 255) := ht
  clear hT ht
  go_enter Try.func10, Try.ntmps10
  go_wp2
  go_loopg [2] (n - p0) (fun g _ wr => ∃ p : Nat, g = n - p ∧ p0 ≤ p ∧ p ≤ n ∧ skip t n p = skip t n p0 ∧ SameBut sb w wr ∧ wr.rowIs sb 29 2 (scv (.slice (some ⟨tb, off, none⟩) n c) p))
  case atStart => exact ⟨p0, rfl, Nat.le_refl _, h0, rfl, SameBut.refl sb w, hS⟩
  case round =>
    obtain ⟨p, hg, l1, l2, he, hsm, hsc⟩ := hrel
    have A : Aside (gk = n - p ∧ skip t n p = skip t n p0) := ⟨hg, he⟩
    clear hg he
    have g0 : wr.cell? ⟨sb, 0, none⟩ = some (.slice (some ⟨tb, off, none⟩) n c) := hsc.cell (i := 0) (by omega)
    have g1 : wr.cell? ⟨sb, 1, none⟩ = some (.int .i64 p) := hsc.cell (i := 1) (by omega)
    have g2 := hsc.frozen 1
    by_cases hp : p < n
    · have hz : (p : Int) < (n : Int) := by omega
      have hd : decide (p < n) = true := by simp; omega
      have g3 : wr.cell? ⟨tb, off + p, none⟩ = some (.int .u8 (t p)) := (World.cell?_of_block (hsm.block tb hne)).trans (HT.out p hp)
      obtain ⟨r, hr, hcall⟩ := idxSp (t p) (HB.out p)
      cases hsp : isSp (t p) with
      | true =>
        have E1 : Hid (skip t n (p + 1) = skip t n p0) := by
          show skip t n (p + 1) = skip t n p0
          rw [← A.out.2, skip_sp t n p hp hsp]
        rw [hsp] at hr
        have hr' : 0 ≤ r := of_decide_eq_true hr
        go_wp2
        go_quiet ((go_at_call 11; exact Calls.quiet_of_same (hcall _)))
        go_wp2
        go_roundg (n - (p + 1))
        case measure => have := A.out.1; omega
        case rel => exact ⟨p + 1, rfl, by omega, by omega, E1.out, (hsm.drewN _).setCell 1 _, scv_set (row_drewN hsc _)⟩
      | false =>
        have H1 : Hid (skip t n p0 = p) := by
          show skip t n p0 = p
          rw [← A.out.2, skip_stop t n p hsp]
        rw [hsp] at hr
        have hr' : ¬ 0 ≤ r := of_decide_eq_false hr
        go_wp2
        go_quiet ((go_at_call 11; exact Calls.quiet_of_same (hcall _)))
        go_wp2
        go_end0
        rw [H1.out]
        exact ⟨rfl, hsm.drewN _, row_drewN hsc _⟩
    · have hd : decide (p < n) = false := by simp; omega
      have hz : ¬ (p : Int) < (n : Int) := by omega
      have H1 : Hid (skip t n p0 = p) := by
        show skip t n p0 = p
        rw [← A.out.2, skip_end t n p (by omega)]
      go_wp2
      go_quiet (fail)
      go_wp2
      go_end0
      rw [H1.out]
      exact ⟨rfl, hsm.drewN _, row_drewN hsc _⟩
end Go.Proofs.Qxb6604411a
