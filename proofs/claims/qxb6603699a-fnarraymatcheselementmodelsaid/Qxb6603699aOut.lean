import Derived.Test.Qxb6603699aArr2
namespace Go.Proofs.Qxb6603699a
open Go.RowKit

theorem Try.info38 : (Try.prog.info? 38).map (fun i => (i.zero, i.size, i.bytes)) = some (some (.agg #[.int .i64 0, .int .i64 0]), 2, 16) := by kernel_rfl
theorem Try.info35 : (Try.prog.info? 35).map (fun i => (i.zero, i.size, i.bytes)) = some (some (.agg #[.int .i64 0, .int .i64 0, .slice none 0 0, .slice none 0 0]), 4, 64) := by kernel_rfl

theorem mk33 (n : Nat) (h : n ≤ 1048576) (w : World) : (Instr.makeSlice 33 (.int .i64 (n : Int)) (.int .i64 (n : Int))).run Try.prog w = .ok (.slice (some ⟨w.heap.size, 0, none⟩) n n) (w.alloc (.cells (madeCells #[.int .i64 0, .int .i64 0] (n * 2)) 38)) := by
  obtain ⟨i0, hi, hz0, hz1, hz2⟩ := info_parts Try.info38
  have hr := run_make (P := Try.prog) w 33 38 i0 _ Try.underlying33 hi hz0 .i64 .i64 n n (by omega) (Int.le_refl _) (by rw [hz2]; omega) (by omega)
  rw [hz1, Int.toNat_natCast] at hr
  exact hr

theorem mk27 (n : Nat) (h : n ≤ 1048576) (w : World) : (Instr.makeSlice 27 (.int .i64 (n : Int)) (.int .i64 (n : Int))).run Try.prog w = .ok (.slice (some ⟨w.heap.size, 0, none⟩) n n) (w.alloc (.cells (madeCells #[.int .i64 0, .int .i64 0, .slice none 0 0, .slice none 0 0] (n * 4)) 35)) := by
  obtain ⟨i0, hi, hz0, hz1, hz2⟩ := info_parts Try.info35
  have hr := run_make (P := Try.prog) w 27 35 i0 _ Try.underlying27 hi hz0 .i64 .i64 n n (by omega) (Int.le_refl _) (by rw [hz2]; omega) (by omega)
  rw [hz1, Int.toNat_natCast] at hr
  exact hr

theorem q87n (w : World) (a : Option Addr) (n c n' c' : Nat) : (binOp .neq 87 (.slice a n c) (.slice none n' c')).run Try.prog w = .ok (.bool !a.isNone) w := run_neq_slice_nil_any w _ _ a n c n' c' Try.underlying87
theorem q70 (w : World) (a : Option Addr) (n c n' c' : Nat) : (binOp .eql 70 (.slice a n c) (.slice none n' c')).run Try.prog w = .ok (.bool a.isNone) w := Lib.run_eql_slice_nil w _ _ a n c n' c' Try.underlying70

theorem made2 (w : World) (m : Nat) (t : TypeId) : (w.alloc (.cells (madeCells #[.int .i64 0, .int .i64 0] m) t)).rowIs w.heap.size t m (fun _ => .int .i64 0) := by
  have h := World.rowIs_alloc w (madeCells #[.int .i64 0, .int .i64 0] m) t (fun _ => .int .i64 0) (fun k hk => by
    rw [size_madeCells] at hk
    have : k % 2 = 0 ∨ k % 2 = 1 := by omega
    rcases this with h | h <;> simp [madeCells, hk, h])
  rw [size_madeCells] at h
  exact h

def zc4 (j : Nat) : Value := bkc (.int .i64 0) (.int .i64 0) (.slice none 0 0) (.slice none 0 0) (j % 4)

theorem made4 (w : World) (m : Nat) (t : TypeId) : (w.alloc (.cells (madeCells #[.int .i64 0, .int .i64 0, .slice none 0 0, .slice none 0 0] m) t)).rowIs w.heap.size t m zc4 := by
  have h := World.rowIs_alloc w (madeCells #[.int .i64 0, .int .i64 0, .slice none 0 0, .slice none 0 0] m) t zc4 (fun k hk => by
    rw [size_madeCells] at hk
    have : k % 4 = 0 ∨ k % 4 = 1 ∨ k % 4 = 2 ∨ k % 4 = 3 := by omega
    rcases this with h | h | h | h <;> simp [madeCells, hk, h, zc4, bkc])
  rw [size_madeCells] at h
  exact h

/-- What BlocksOut reads: block c's cells, its spans. -/
structure BI (w : World) (g nb tb n : Nat) (St En VB Kn : Nat → Nat) (P : Nat → Nat → Int) : Prop where
  c0 : ∀ c, c < nb → w.cell? ⟨g, c * 4, none⟩ = some (.int .i64 (St c : Int))
  c1 : ∀ c, c < nb → w.cell? ⟨g, c * 4 + 1, none⟩ = some (.int .i64 (En c : Int))
  c2 : ∀ c, c < nb → w.cell? ⟨g, c * 4 + 2, none⟩ = some (.slice (some ⟨tb, St c, none⟩) (En c - St c) (n - St c))
  c3 : ∀ c, c < nb → w.cell? ⟨g, c * 4 + 3, none⟩ = some (.slice (some ⟨VB c, 0, none⟩) (Kn c) 64)
  sp : ∀ c, c < nb → ∀ j, j < Kn c * 2 → w.cell? ⟨VB c, j, none⟩ = some (.int .i64 (P c j))
  kn : ∀ c, c < nb → Kn c ≤ 64

/-- the cells of the copy -/
def oc (N tb n : Nat) (St En Kn : Nat → Nat) (j : Nat) : Value := bkc (.int .i64 (St (j / 4) : Int)) (.int .i64 (En (j / 4) : Int)) (.slice (some ⟨tb, St (j / 4), none⟩) (En (j / 4) - St (j / 4)) (n - St (j / 4))) (.slice (some ⟨N + 1 + j / 4, 0, none⟩) (Kn (j / 4)) (Kn (j / 4))) (j % 4)

/-- c blocks copied -/
structure OL (w wr : World) (nb tb n : Nat) (St En Kn : Nat → Nat) (P : Nat → Nat → Int) (c : Nat) : Prop where
  below : Below w.heap.size w wr
  size : wr.heap.size = w.heap.size + 1 + c
  top : wr.rowIs w.heap.size 35 (nb * 4) (fun j => if j < c * 4 then oc w.heap.size tb n St En Kn j else zc4 j)
  done : ∀ d, d < c → wr.rowIs (w.heap.size + 1 + d) 38 (Kn d * 2) (fun j => .int .i64 (P d j))

/-- .. and k spans of the next -/
structure IL (w wr : World) (nb tb n : Nat) (St En Kn : Nat → Nat) (P : Nat → Nat → Int) (c k : Nat) : Prop where
  below : Below w.heap.size w wr
  size : wr.heap.size = w.heap.size + 1 + c + 1
  top : wr.rowIs w.heap.size 35 (nb * 4) (fun j => if j < c * 4 then oc w.heap.size tb n St En Kn j else zc4 j)
  done : ∀ d, d < c → wr.rowIs (w.heap.size + 1 + d) 38 (Kn d * 2) (fun j => .int .i64 (P d j))
  cur : wr.rowIs (w.heap.size + 1 + c) 38 (Kn c * 2) (fun j => if j < k * 2 then .int .i64 (P c j) else .int .i64 0)

theorem OL.start (w : World) (nb tb n : Nat) (St En Kn : Nat → Nat) (P : Nat → Nat → Int) : OL w (w.alloc (.cells (madeCells #[.int .i64 0, .int .i64 0, .slice none 0 0, .slice none 0 0] (nb * 4)) 35)) nb tb n St En Kn P 0 :=
  ⟨(Below.refl _ _).alloc (Nat.le_refl _) _, by simp, (made4 w (nb * 4) 35).congr (fun j _ => by simp), fun d hd => absurd hd (Nat.not_lt_zero _)⟩

theorem OL.inner {w wr : World} {nb tb n : Nat} {St En Kn : Nat → Nat} {P : Nat → Nat → Int} {c : Nat} (h : OL w wr nb tb n St En Kn P c) : IL w (wr.alloc (.cells (madeCells #[.int .i64 0, .int .i64 0] (Kn c * 2)) 38)) nb tb n St En Kn P c 0 := by
  have hm := made2 wr (Kn c * 2) 38
  rw [h.size] at hm
  exact ⟨h.below.alloc h.below.size _, by rw [World.size_alloc, h.size], h.top.alloc _, fun d hd => (h.done d hd).alloc _, hm.congr (fun j _ => by simp)⟩

theorem IL.step {w wr : World} {nb tb n : Nat} {St En Kn : Nat → Nat} {P : Nat → Nat → Int} {c k : Nat} (h : IL w wr nb tb n St En Kn P c k) :
    IL w (((wr.setCell ⟨w.heap.size + 1 + c, k * 2, none⟩ (.int .i64 (P c (k * 2)))).setCell ⟨w.heap.size + 1 + c, k * 2 + 1, none⟩ (.int .i64 (P c (k * 2 + 1)))).drew) nb tb n St En Kn P c (k + 1) := by
  refine ⟨((h.below.setCell (p := ⟨w.heap.size + 1 + c, k * 2, none⟩) (by show w.heap.size ≤ w.heap.size + 1 + c; omega) _).setCell (p := ⟨w.heap.size + 1 + c, k * 2 + 1, none⟩) (by show w.heap.size ≤ w.heap.size + 1 + c; omega) _).drew, by simp [h.size], ?_, fun d hd => ?_, ?_⟩
  · exact (h.top.setOther (by show w.heap.size ≠ w.heap.size + 1 + c; omega) _).setOther (by show w.heap.size ≠ w.heap.size + 1 + c; omega) _
  · exact ((h.done d hd).setOther (by show w.heap.size + 1 + d ≠ w.heap.size + 1 + c; omega) _).setOther (by show w.heap.size + 1 + d ≠ w.heap.size + 1 + c; omega) _
  · refine (((h.cur.set (k * 2) _).set (k * 2 + 1) _).congr (fun j hj => ?_))
    by_cases e1 : j = k * 2 + 1
    · subst e1; rw [if_pos rfl, if_pos (by omega)]
    · rw [if_neg e1]
      by_cases e2 : j = k * 2
      · subst e2; rw [if_pos rfl, if_pos (by omega)]
      · rw [if_neg e2]
        by_cases e3 : j < k * 2
        · rw [if_pos e3, if_pos (by omega)]
        · rw [if_neg e3, if_neg (by omega)]

theorem IL.close {w wr : World} {nb tb n : Nat} {St En Kn : Nat → Nat} {P : Nat → Nat → Int} {c : Nat} (h : IL w wr nb tb n St En Kn P c (Kn c)) :
    OL w (((((wr.setCell ⟨w.heap.size, c * 4, none⟩ (.int .i64 (St c : Int))).setCell ⟨w.heap.size, c * 4 + 1, none⟩ (.int .i64 (En c : Int))).setCell ⟨w.heap.size, c * 4 + 2, none⟩ (.slice (some ⟨tb, St c, none⟩) (En c - St c) (n - St c))).setCell ⟨w.heap.size, c * 4 + 3, none⟩ (.slice (some ⟨w.heap.size + 1 + c, 0, none⟩) (Kn c) (Kn c))).drew) nb tb n St En Kn P (c + 1) := by
  have nd : ∀ d, w.heap.size + 1 + d ≠ w.heap.size := fun d => by omega
  refine ⟨((((h.below.setCell (p := ⟨w.heap.size, c * 4, none⟩) (Nat.le_refl _) _).setCell (p := ⟨w.heap.size, c * 4 + 1, none⟩) (Nat.le_refl _) _).setCell (p := ⟨w.heap.size, c * 4 + 2, none⟩) (Nat.le_refl _) _).setCell (p := ⟨w.heap.size, c * 4 + 3, none⟩) (Nat.le_refl _) _).drew, by simp [h.size]; omega, ?_, fun d hd => ?_⟩
  · refine (((((h.top.set (c * 4) _).set (c * 4 + 1) _).set (c * 4 + 2) _).set (c * 4 + 3) _).congr (fun j hj => ?_))
    by_cases e3 : j = c * 4 + 3
    · subst e3
      rw [if_pos rfl, if_pos (by omega)]
      unfold oc
      rw [show (c * 4 + 3) / 4 = c by omega, show (c * 4 + 3) % 4 = 3 by omega]
      rfl
    · rw [if_neg e3]
      by_cases e2 : j = c * 4 + 2
      · subst e2
        rw [if_pos rfl, if_pos (by omega)]
        unfold oc
        rw [show (c * 4 + 2) / 4 = c by omega, show (c * 4 + 2) % 4 = 2 by omega]
        rfl
      · rw [if_neg e2]
        by_cases e1 : j = c * 4 + 1
        · subst e1
          rw [if_pos rfl, if_pos (by omega)]
          unfold oc
          rw [show (c * 4 + 1) / 4 = c by omega, show (c * 4 + 1) % 4 = 1 by omega]
          rfl
        · rw [if_neg e1]
          by_cases e0 : j = c * 4
          · subst e0
            rw [if_pos rfl, if_pos (by omega)]
            unfold oc
            rw [show (c * 4) / 4 = c by omega, show (c * 4) % 4 = 0 by omega]
            rfl
          · rw [if_neg e0]
            by_cases e : j < c * 4
            · rw [if_pos e, if_pos (by omega)]
            · rw [if_neg e, if_neg (by omega)]
  · have thru : ∀ {b : Nat} {t : TypeId} {m : Nat} {f : Nat → Value}, wr.rowIs b t m f → b ≠ w.heap.size → (((((wr.setCell ⟨w.heap.size, c * 4, none⟩ (.int .i64 (St c : Int))).setCell ⟨w.heap.size, c * 4 + 1, none⟩ (.int .i64 (En c : Int))).setCell ⟨w.heap.size, c * 4 + 2, none⟩ (.slice (some ⟨tb, St c, none⟩) (En c - St c) (n - St c))).setCell ⟨w.heap.size, c * 4 + 3, none⟩ (.slice (some ⟨w.heap.size + 1 + c, 0, none⟩) (Kn c) (Kn c))).drew).rowIs b t m f :=
      fun r hne => ((((r.setOther (a := ⟨w.heap.size, c * 4, none⟩) hne _).setOther (a := ⟨w.heap.size, c * 4 + 1, none⟩) hne _).setOther (a := ⟨w.heap.size, c * 4 + 2, none⟩) hne _).setOther (a := ⟨w.heap.size, c * 4 + 3, none⟩) hne _).drew
    have hcur : wr.rowIs (w.heap.size + 1 + c) 38 (Kn c * 2) (fun j => .int .i64 (P c j)) := h.cur.congr (fun j hj => by
      have hj' : j < Kn c * 2 := hj
      rw [if_pos hj'])
    rcases Nat.lt_or_ge d c with hlt | hge
    · exact thru (h.done d hlt) (nd d)
    · have e : d = c := by omega
      rw [e]
      exact thru hcur (nd c)

set_option maxHeartbeats 400000 in
theorem blocksOut_nil (w : World) :
    Calls Try.prog 34 #[.slice none 0 0] w fun e w' => e = .returned (.slice none 0 0) ∧ w' = w := by
  have q := q70
  go_enter Try.func34, Try.ntmps34
  go_wp2
  go_ret
  exact ⟨rfl, rfl⟩

end Go.Proofs.Qxb6603699a
