import Derived.Test.Qxb6603699aProg
import Derived.Test.Qxb6603699aPlain
import Derived.WalkKit
import Derived.WalkSpells
import Derived.WalkLawsBesides
import Derived.Deep.QuietTactic
import Derived.BigQuiet
import Derived.Deep.OwnRows
import Derived.Lib.SliceRun
namespace Go.Proofs.Qxb6603699a
open Go.RowKit

theorem Try.info5 : (Try.prog.info? 5).map (fun i => (i.zero, i.size, i.bytes)) = some (some (.int .u8 0), 1, 1) := by kernel_rfl

/-- Blocks other than b, the streams and the tape are as they were. -/
structure SameBut (b : Nat) (w w' : World) : Prop where
  os : w'.os = w.os
  tape : w'.tape = w.tape
  output : w'.output = w.output
  size : w'.heap.size = w.heap.size
  block : ∀ k, k ≠ b → w'.heap[k]? = w.heap[k]?

namespace SameBut
theorem refl (b : Nat) (w : World) : SameBut b w w := ⟨rfl, rfl, rfl, rfl, fun _ _ => rfl⟩
theorem trans {b : Nat} {w w' w'' : World} (h : SameBut b w w') (k : SameBut b w' w'') : SameBut b w w'' :=
  ⟨k.os.trans h.os, k.tape.trans h.tape, k.output.trans h.output, k.size.trans h.size, fun i hi => (k.block i hi).trans (h.block i hi)⟩
theorem drewN {b : Nat} {w w' : World} (h : SameBut b w w') (n : Nat) : SameBut b w (w'.drewN n) := ⟨h.os, h.tape, h.output, h.size, h.block⟩
theorem setCell {b : Nat} {w w' : World} (h : SameBut b w w') (o : Nat) (v : Value) : SameBut b w (w'.setCell ⟨b, o, none⟩ v) :=
  h.trans ⟨rfl, rfl, rfl, by simp [World.setCell], fun k hk => Below.heap_setCell _ _ _ _ hk⟩
theorem row {b : Nat} {w w' : World} (h : SameBut b w w') {c : Nat} (hc : c ≠ b) {t : TypeId} {n : Nat} {f : Nat → Value} (r : w.rowIs c t n f) : w'.rowIs c t n f := r.of_block (h.block c hc)
theorem below {b B : Nat} {w w' : World} (h : SameBut b w w') (hB : B ≤ b) : Below B w w' := ⟨h.os, h.tape, h.output, Nat.le_of_eq h.size.symm, fun k hk => h.block k (by omega)⟩
end SameBut

theorem row_drewN {w : World} {b : Nat} {t : TypeId} {n : Nat} {f : Nat → Value} (h : w.rowIs b t n f) (m : Nat) : (w.drewN m).rowIs b t n f := h

theorem q22 (w : World) (a : Option Addr) (n c n' c' : Nat) : (binOp .eql 22 (.slice a n c) (.slice none n' c')).run Try.prog w = .ok (.bool a.isNone) w := Lib.run_eql_slice_nil w _ _ a n c n' c' Try.underlying22

set_option maxHeartbeats 400000 in
theorem clone_nil (w : World) :
    Calls Try.prog 8 #[.slice none 0 0] w fun e w' => e = .returned (.slice none 0 0) ∧ w' = w := by
  have qT := q22
  go_enter Try.func8, Try.ntmps8
  go_wp2
  go_ret
  exact ⟨rfl, rfl⟩

/-- The copy's loop, k cells copied. -/
structure CL (w wr : World) (n k : Nat) (t : Nat → Int) : Prop where
  below : Below w.heap.size w wr
  size : wr.heap.size = w.heap.size + 1
  row : wr.rowIs w.heap.size 5 n (fun j => if j < k then .int .u8 (t j) else .int .u8 0)

theorem CL.start (w : World) (n : Nat) (t : Nat → Int) : CL w (w.alloc (.cells (madeCells #[.int .u8 0] n) 5)) n 0 t :=
  ⟨(Below.refl _ _).alloc (Nat.le_refl _) _, by simp, (World.rowIs_made w _ n 5).congr (fun j _ => by simp)⟩

theorem CL.step {w wr : World} {n k : Nat} {t : Nat → Int} (h : CL w wr n k t) : CL w (wr.setCell ⟨w.heap.size, k, none⟩ (.int .u8 (t k))) n (k + 1) t := by
  refine ⟨h.below.setCell (Nat.le_refl _) _, by simp [h.size], (h.row.set k _).congr (fun j _ => ?_)⟩
  by_cases e : j = k
  · subst e; simp
  · rw [if_neg e]
    by_cases hlt : j < k
    · rw [if_pos hlt, if_pos (by omega)]
    · rw [if_neg hlt, if_neg (by omega)]

set_option maxHeartbeats 400000 in
theorem clone_any (b off : Nat) (sp : Option _) (n c : Nat) (t : Nat → Int) (w : World) (hn : n ≤ 1048576) (hc : ∀ k, k < n → sp = none ∧ w.cell? ⟨b, off + k, none⟩ = some (.int .u8 (t k))) :
    Calls Try.prog 8 #[.slice (some ⟨b, off, sp⟩) n c] w fun e w' => e = .returned (.slice (some ⟨w.heap.size, 0, none⟩) n n) ∧ CL w w' n n t := by
  have hmk := run_make_row' (P := Try.prog) 22 5 (.int .u8 0) 1 Try.underlying22 Try.info5 rfl .i64 .i64 n (by omega) (by omega)
  have qT := q22
  go_enter Try.func8, Try.ntmps8
  go_wp2
  clear hmk qT
  go_loopw [4] (fun i wr => ∃ k : Nat, k ≤ n ∧ i = .int .i64 k ∧ CL w wr n k t) (fun i _ => n - (intOf i).toNat)
  case atStart => exact ⟨0, Nat.zero_le _, rfl, CL.start w n t⟩
  case round =>
    obtain ⟨k, hk, rfl, hcl⟩ := hrel
    by_cases hlt : k < n
    · obtain ⟨rfl, hck⟩ := hc k hlt
      have hbl : b < w.heap.size := World.block_lt_of_cell? _ _ hck
      have hz : (k : Int) < (n : Int) := by omega
      have g0 : wr.cell? ⟨b, off + k, none⟩ = some (.int .u8 (t k)) := by rw [hcl.below.cell (p := ⟨b, off + k, none⟩) hbl]; exact hck
      have g1 := hcl.row.cell hlt
      have g2 := hcl.row.frozen k
      have R := hcl.step
      clear hc hck
      go_wp2
      go_roundw
      case rel => exact ⟨k + 1, by omega, by go_num, R⟩
      case measure => simp [intOf]; omega
    · go_wp2
      go_ret
      obtain rfl : k = n := by omega
      exact ⟨rfl, hcl⟩

set_option maxHeartbeats 400000 in
theorem isSpace_any (c : Int) (w : World) :
    Calls Try.prog 40 #[.int .u8 c] w fun e w' => e = .returned (.bool (isSp c)) ∧ w' = w := by
  go_enter Try.func40, Try.ntmps40
  go_wp2
  all_goals go_ret
  all_goals exact ⟨by simp [isSp, *], rfl⟩

set_option maxHeartbeats 400000 in
theorem rbIsSpace_any (c : Int) (w : World) :
    Calls Try.prog 31 #[.int .u8 c] w fun e w' => e = .returned (.bool (isSp c)) ∧ w' = w := by
  go_enter Try.func31, Try.ntmps31
  go_wp2
  all_goals go_ret
  all_goals exact ⟨by simp [isSp, *], rfl⟩

set_option maxHeartbeats 400000 in
theorem zzBytes_yes (a : Option Addr) (n c : Nat) (i : Int) (w : World) (h : n ≤ 1048576) :
    Calls Try.prog 7 #[.slice a n c, .int .i64 i] w fun e w' => e = .returned (.bool true) ∧ w' = w := by
  go_enter Try.func7, Try.ntmps7
  go_wp2
  go_ret
  exact ⟨rfl, rfl⟩

set_option maxHeartbeats 400000 in
theorem zzBytes_no (a : Option Addr) (n c : Nat) (i : Int) (w : World) (h : 1048576 < n) :
    Calls Try.prog 7 #[.slice a n c, .int .i64 i] w fun e w' => e = .returned (.bool false) ∧ w' = w := by
  go_enter Try.func7, Try.ntmps7
  go_wp2
  go_ret
  exact ⟨rfl, rfl⟩

set_option maxHeartbeats 400000 in
theorem lastQuote_any (tb n cp : Nat) (t : Nat → Int) (w : World) (hn : n ≤ 1048576) (hc : ∀ k, k < n → w.cell? ⟨tb, k, none⟩ = some (.int .u8 (t k))) :
    Calls Try.prog 30 #[.slice (some ⟨tb, 0, none⟩) n cp] w fun e w' => e = .returned (.int .i64 ((lastQ t n : Int) - 1)) ∧ w' = w := by
  go_enter Try.func30, Try.ntmps30
  go_wp2
  go_loop [3] (fun k => ∃ m : Nat, m ≤ n ∧ k = .int .i64 ((m : Int) - 1) ∧ lastQ t m = lastQ t n) (fun k => (intOf k + 1).toNat)
  case atStart => exact ⟨n, Nat.le_refl _, rfl, rfl⟩
  case round =>
    obtain ⟨m, hm, rfl, hq⟩ := hrel
    have HQ : Hid (lastQ t m = lastQ t n) := hq
    clear hq
    cases m with
    | zero =>
      go_wp2
      go_ret
      exact ⟨by rw [← HQ.out]; rfl, rfl⟩
    | succ m =>
      have hcm := hc m (by omega)
      clear hc
      by_cases h34 : t m = 34
      · have e : ((lastQ t n : Nat) : Int) - 1 = (m : Int) := by rw [← HQ.out]; simp [lastQ, h34]
        have E : Hid (((lastQ t n : Nat) : Int) - 1 = (m : Int)) := e
        clear e
        go_wp2
        go_ret
        exact ⟨by rw [E.out]; rfl, rfl⟩
      · have e : lastQ t m = lastQ t n := by rw [← HQ.out]; simp [lastQ, h34]
        have E : Hid (lastQ t m = lastQ t n) := e
        clear e
        go_wp2
        go_round
        case rel => exact ⟨m, by omega, rfl, E.out⟩
        case measure => simp [intOf]

/-- The scanner's two cells: its text, its place. -/
def scv (v : Value) (i : Int) : Nat → Value := fun j => if j = 0 then v else .int .i64 i

theorem scv_set {w : World} {sb : Nat} {v : Value} {i j : Int} (h : w.rowIs sb 66 2 (scv v i)) : (w.setCell ⟨sb, 1, none⟩ (.int .i64 j)).rowIs sb 66 2 (scv v j) :=
  (h.set 1 _).congr (fun k hk => by
    by_cases e : k = 1
    · subst e; simp [scv]
    · obtain rfl : k = 0 := by omega
      simp [scv])

theorem cast_succ (i : Nat) : ((i : Int) + 1) = ((i + 1 : Nat) : Int) := rfl

set_option maxHeartbeats 400000 in
theorem take_yes (sb tb n i : Nat) (c : Int) (t : Nat → Int) (w : World) (hn : n ≤ 1048576) (hi : i < n) (hc : t i = c)
    (hS : w.rowIs sb 66 2 (scv (.slice (some ⟨tb, 0, none⟩) n n) i)) (hT : w.rowIs tb 5 n (fun k => .int .u8 (t k))) :
    Calls Try.prog 42 #[.pointer (some ⟨sb, 0, none⟩), .int .u8 c] w fun e w' => e = .returned (.bool true) ∧ SameBut sb w w' ∧ w'.rowIs sb 66 2 (scv (.slice (some ⟨tb, 0, none⟩) n n) ((i + 1 : Nat) : Int)) := by
  have g0 : w.cell? ⟨sb, 0, none⟩ = some (.slice (some ⟨tb, 0, none⟩) n n) := hS.cell (i := 0) (by omega)
  have g1 : w.cell? ⟨sb, 1, none⟩ = some (.int .i64 i) := hS.cell (i := 1) (by omega)
  have g2 := hS.frozen 1
  have g3 : w.cell? ⟨tb, i, none⟩ = some (.int .u8 (t i)) := hT.cell hi
  have hz : (i : Int) < (n : Int) := by omega
  have hd : decide ((i : Int) < (n : Int)) = true := by simp; omega
  have hcc : (t i == c) = true := by simp [hc]
  clear hc
  go_enter Try.func42, Try.ntmps42
  go_wp2
  go_quiet (fail)
  go_wp2
  go_ret
  exact ⟨rfl, ((SameBut.refl sb w).drewN nq).setCell 1 _, scv_set (row_drewN hS nq)⟩

set_option maxHeartbeats 400000 in
theorem take_no (sb tb n i : Nat) (c : Int) (t : Nat → Int) (w : World) (hi : i < n) (hc : t i ≠ c)
    (hS : w.rowIs sb 66 2 (scv (.slice (some ⟨tb, 0, none⟩) n n) i)) (hT : w.rowIs tb 5 n (fun k => .int .u8 (t k))) :
    Calls Try.prog 42 #[.pointer (some ⟨sb, 0, none⟩), .int .u8 c] w fun e w' => e = .returned (.bool false) ∧ SameBut sb w w' ∧ w'.rowIs sb 66 2 (scv (.slice (some ⟨tb, 0, none⟩) n n) i) := by
  have g0 : w.cell? ⟨sb, 0, none⟩ = some (.slice (some ⟨tb, 0, none⟩) n n) := hS.cell (i := 0) (by omega)
  have g1 : w.cell? ⟨sb, 1, none⟩ = some (.int .i64 i) := hS.cell (i := 1) (by omega)
  have g3 : w.cell? ⟨tb, i, none⟩ = some (.int .u8 (t i)) := hT.cell hi
  have hz : (i : Int) < (n : Int) := by omega
  have hd : decide ((i : Int) < (n : Int)) = true := by simp; omega
  have hcc : (t i == c) = false := by simp [hc]
  clear hc
  go_enter Try.func42, Try.ntmps42
  go_wp2
  go_quiet (fail)
  go_wp2
  go_ret
  exact ⟨rfl, ((SameBut.refl sb w).drewN nq), (row_drewN hS nq)⟩

set_option maxHeartbeats 400000 in
theorem take_end (sb n i : Nat) (a : Option Addr) (c : Int) (w : World) (hi : n ≤ i) (hS : w.rowIs sb 66 2 (scv (.slice a n n) i)) :
    Calls Try.prog 42 #[.pointer (some ⟨sb, 0, none⟩), .int .u8 c] w fun e w' => e = .returned (.bool false) ∧ SameBut sb w w' ∧ w'.rowIs sb 66 2 (scv (.slice a n n) i) := by
  have g0 : w.cell? ⟨sb, 0, none⟩ = some (.slice a n n) := hS.cell (i := 0) (by omega)
  have g1 : w.cell? ⟨sb, 1, none⟩ = some (.int .i64 i) := hS.cell (i := 1) (by omega)
  have hd : decide (i < n) = false := by simp; omega
  go_enter Try.func42, Try.ntmps42
  go_wp2
  go_quiet (fail)
  go_wp2
  go_ret
  exact ⟨rfl, ((SameBut.refl sb w).drewN nq), (row_drewN hS nq)⟩

end Go.Proofs.Qxb6603699a
