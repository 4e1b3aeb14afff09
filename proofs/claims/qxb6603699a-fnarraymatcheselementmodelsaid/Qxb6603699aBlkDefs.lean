import Derived.Test.Qxb6603699aModA
import Derived.Deep.RegionHeld3
import Derived.Deep.RegionLaw
import Derived.BigRegion
namespace Go.Proofs.Qxb6603699a
open Go.RowKit

/-- All that was there is as it was, but for the blocks of p. -/
structure Fr (p : Nat → Prop) (w w' : World) : Prop where
  os : w'.os = w.os
  tape : w'.tape = w.tape
  output : w'.output = w.output
  size : w.heap.size ≤ w'.heap.size
  block : ∀ k, k < w.heap.size → ¬ p k → w'.heap[k]? = w.heap[k]?

namespace Fr
variable {p : Nat → Prop} {a w w' : World}
theorem refl (p : Nat → Prop) (w : World) : Fr p w w := ⟨rfl, rfl, rfl, Nat.le_refl _, fun _ _ _ => rfl⟩
theorem drewN (h : Fr p a w) (n : Nat) : Fr p a (w.drewN n) := ⟨h.os, h.tape, h.output, h.size, h.block⟩
theorem drew (h : Fr p a w) : Fr p a w.drew := ⟨h.os, h.tape, h.output, h.size, h.block⟩
theorem alloc (h : Fr p a w) (o : Obj) : Fr p a (w.alloc o) :=
  ⟨h.os, h.tape, h.output, by have := h.size; rw [World.size_alloc]; omega, fun k hk hp => (Below.heap_alloc w o k (by have := h.size; omega)).trans (h.block k hk hp)⟩
theorem set (h : Fr p a w) {b : Addr} (hb : p b.block ∨ a.heap.size ≤ b.block) (v : Value) : Fr p a (w.setCell b v) :=
  ⟨h.os, h.tape, h.output, by have := h.size; simpa [World.setCell] using this, fun k hk hp => (Below.heap_setCell w b v k (fun e => by subst e; rcases hb with hb | hb; exact hp hb; omega)).trans (h.block k hk hp)⟩
theorem same (h : Fr p a w) {b : Nat} (s : SameBut b w w') (hb : p b ∨ a.heap.size ≤ b) : Fr p a w' :=
  ⟨s.os.trans h.os, s.tape.trans h.tape, s.output.trans h.output, by rw [s.size]; exact h.size, fun k hk hp => (s.block k (fun e => by subst e; rcases hb with hb | hb; exact hp hb; omega)).trans (h.block k hk hp)⟩
theorem grown (h : Fr p a w) {row : Option Nat} (g : w.grownBy w' row) (hb : ∀ k, row = some k → p k ∨ a.heap.size ≤ k) : Fr p a w' :=
  ⟨g.os.trans h.os, g.tape.trans h.tape, g.output.trans h.output, Nat.le_trans h.size g.size, fun k hk hp => (g.block k (by have := h.size; omega) (fun e => by rcases hb k e.symm with hb | hb; exact hp hb; omega)).trans (h.block k hk hp)⟩
theorem below (h : Fr p a w) {B : Nat} (hB : ∀ k, p k → B ≤ k) (hs : B ≤ a.heap.size) : Below B a w := ⟨h.os, h.tape, h.output, h.size, fun k hk => h.block k (by omega) (fun hp => by have := hB k hp; omega)⟩
end Fr

theorem tag_ne {w : World} {a b : Nat} {t u : TypeId} {n m : Nat} {f g : Nat → Value} (h : w.rowIs a t n f) (k : w.rowIs b u m g) (hne : t ≠ u) : a ≠ b := by
  rintro rfl
  obtain ⟨c, hc, _, _⟩ := h
  obtain ⟨d, hd, _, _⟩ := k
  rw [hc] at hd
  simp at hd
  exact hne hd.2

theorem own_tag {w : World} {base : Nat} {e : TypeId} {size : Nat} {v : Value} {n : Nat} {xs : List Value} (h : w.ownsRow base e size v n xs) {g : Nat} (hg : v.ownBlock = some g) : ∃ c, w.heap[g]? = some (.cells c e (0, 0)) := by
  rcases h.2 with ⟨rfl, _⟩ | ⟨g', cap, cur, rfl, _, hh, _⟩
  · cases hg
  · have : g' = g := by simpa [Value.ownBlock] using hg
    subst this
    exact ⟨cur, hh⟩

theorem own_tag_ne {w : World} {base : Nat} {e : TypeId} {size : Nat} {v : Value} {n : Nat} {xs : List Value} (h : w.ownsRow base e size v n xs) {b : Nat} {u : TypeId} {m : Nat} {f : Nat → Value} (k : w.rowIs b u m f) (hne : u ≠ e) : some b ≠ v.ownBlock := by
  intro hb
  obtain ⟨c, hc⟩ := own_tag h hb.symm
  obtain ⟨d, hd, _, _⟩ := k
  rw [hc] at hd
  simp at hd
  exact hne hd.2.symm

theorem own_of_block {w w' : World} {base : Nat} {e : TypeId} {size : Nat} {v : Value} {n : Nat} {xs : List Value} (h : w.ownsRow base e size v n xs) (hb : ∀ g, v.ownBlock = some g → w'.heap[g]? = w.heap[g]?) : w'.ownsRow base e size v n xs := by
  refine ⟨h.1, ?_⟩
  rcases h.2 with h2 | ⟨g, cap, cur, rfl, h3, h4, h5⟩
  · exact Or.inl h2
  · exact Or.inr ⟨g, cap, cur, rfl, h3, (hb g rfl).trans h4, h5⟩

/-- the four cells of a block -/
def bkc (a b c d : Value) : Nat → Value := fun j => if j = 0 then a else if j = 1 then b else if j = 2 then c else d

/-- the cells of the spans, from place p0 -/
def spv (p0 : Nat) (K : List (Nat × Nat)) (j : Nat) : Int := if j % 2 = 0 then ((K.getD (j / 2) (0, 0)).1 : Int) - p0 else ((K.getD (j / 2) (0, 0)).2 : Int) - p0
def spc (p0 : Nat) (K : List (Nat × Nat)) : Nat → Value := fun j => if j < 2 * K.length then .int .i64 (spv p0 K j) else .int .i64 0

def nums (m : Nat) : List Value := (List.range m).map fun k => .int .i64 ((k : Nat) : Int)
theorem nums_succ (m : Nat) : nums (m + 1) = nums m ++ [.int .i64 (m : Int)] := by simp [nums, List.range_succ]

theorem spc_snoc (p0 : Nat) (K : List (Nat × Nat)) (a b : Nat) (j : Nat) :
    (if j = 2 * K.length + 1 then Value.int .i64 ((b : Int) - p0) else if j = 2 * K.length then Value.int .i64 ((a : Int) - p0) else spc p0 K j) = spc p0 (K ++ [(a, b)]) j := by
  have hl : (K ++ [(a, b)]).length = K.length + 1 := by simp
  unfold spc spv
  rw [hl]
  by_cases h1 : j = 2 * K.length + 1
  · subst h1
    rw [if_pos rfl, if_pos (by omega), if_neg (by omega), show (2 * K.length + 1) / 2 = K.length by omega]
    simp
  · rw [if_neg h1]
    by_cases h2 : j = 2 * K.length
    · subst h2
      rw [if_pos rfl, if_pos (by omega), if_pos (by omega), show (2 * K.length) / 2 = K.length by omega]
      simp
    · rw [if_neg h2]
      by_cases h3 : j < 2 * K.length
      · rw [if_pos h3, if_pos (show j < 2 * (K.length + 1) by omega)]
        have e : (K ++ [(a, b)]).getD (j / 2) (0, 0) = K.getD (j / 2) (0, 0) := by
          rw [List.getD_eq_getElem?_getD, List.getD_eq_getElem?_getD, List.getElem?_append_left (by omega)]
        rw [e]
      · rw [if_neg h3, if_neg (by omega)]

/-- The state of '(*scanner).block' in mid-run. -/
structure BS (w0 w : World) (sb tb n : Nat) (t : Nat → Int) (chb bk vb base : Nat) (v0 : Value) (p0 p : Nat) (K : List (Nat × Nat)) (mc : Nat) (vc : Value) (en : Int) (tx : Value) : Prop where
  fr : Fr (fun k => k = sb ∨ k = chb ∨ some k = v0.ownBlock) w0 w
  sc : Sc w sb tb n t p
  box : w.rowIs bk 89 4 (bkc (.int .i64 p0) (.int .i64 en) tx (.slice (some ⟨vb, 0, none⟩) K.length 64))
  vms : w.rowIs vb 94 128 (spc p0 K)
  ch : w.rowIs chb 28 1 (fun _ => vc)
  own : w.ownsRow base 3 1 vc mc (nums mc)
  bkN : w0.heap.size ≤ bk
  vbN : w0.heap.size ≤ vb
  vcO : ∀ g, vc.ownBlock = some g → v0.ownBlock = some g ∨ w0.heap.size ≤ g

namespace BS
variable {w0 w w' : World} {sb tb n : Nat} {t : Nat → Int} {chb bk vb base : Nat} {v0 : Value} {p0 p p' : Nat} {K : List (Nat × Nat)} {mc : Nat} {vc : Value} {en : Int} {tx : Value}

theorem drewN (h : BS w0 w sb tb n t chb bk vb base v0 p0 p K mc vc en tx) (q : Nat) : BS w0 (w.drewN q) sb tb n t chb bk vb base v0 p0 p K mc vc en tx :=
  ⟨h.fr.drewN q, h.sc.drewN q, h.box, h.vms, h.ch, h.own, h.bkN, h.vbN, h.vcO⟩
theorem drew (h : BS w0 w sb tb n t chb bk vb base v0 p0 p K mc vc en tx) : BS w0 w.drew sb tb n t chb bk vb base v0 p0 p K mc vc en tx :=
  ⟨h.fr.drew, ⟨h.sc.at_, h.sc.text⟩, h.box, h.vms, h.ch, h.own, h.bkN, h.vbN, h.vcO⟩
theorem alloc (h : BS w0 w sb tb n t chb bk vb base v0 p0 p K mc vc en tx) (o : Obj) : BS w0 (w.alloc o) sb tb n t chb bk vb base v0 p0 p K mc vc en tx :=
  ⟨h.fr.alloc o, ⟨h.sc.at_.alloc o, h.sc.text.alloc o⟩, h.box.alloc o, h.vms.alloc o, h.ch.alloc o, h.own.alloc o, h.bkN, h.vbN, h.vcO⟩

/-- the scanner moves -/
theorem move (h : BS w0 w sb tb n t chb bk vb base v0 p0 p K mc vc en tx) (s : SameBut sb w w') (hS : Sc w' sb tb n t p') : BS w0 w' sb tb n t chb bk vb base v0 p0 p' K mc vc en tx :=
  ⟨h.fr.same s (Or.inl (Or.inl rfl)), hS, s.row (tag_ne h.box h.sc.at_ (by decide)) h.box, s.row (tag_ne h.vms h.sc.at_ (by decide)) h.vms, s.row (tag_ne h.ch h.sc.at_ (by decide)) h.ch,
    own_of_block h.own (fun g hg => s.block g (fun e => own_tag_ne h.own h.sc.at_ (by decide) (by rw [hg, e]))), h.bkN, h.vbN, h.vcO⟩

/-- 'changed' grows by one; its box is stored to -/
theorem push (h : BS w0 w sb tb n t chb bk vb base v0 p0 p K mc vc en tx) {w1 : World} {g c : Nat} {o : Obj} (hgr : (w.alloc o).grownBy w1 vc.ownBlock) (hat : vc.ownBlock = some g ∨ g = w.heap.size + 1)
    (hown : w1.ownsRow base 3 1 (.slice (some ⟨g, 0, none⟩) (mc + 1) c) (mc + 1) (nums mc ++ [.int .i64 (mc : Int)])) :
    BS w0 (w1.setCell ⟨chb, 0, none⟩ (.slice (some ⟨g, 0, none⟩) (mc + 1) c)) sb tb n t chb bk vb base v0 p0 p K (mc + 1) (.slice (some ⟨g, 0, none⟩) (mc + 1) c) en tx := by
  have ha := h.alloc o
  have kept : ∀ {b : Nat} {u : TypeId} {m : Nat} {f : Nat → Value}, (w.alloc o).rowIs b u m f → u ≠ 3 → w1.rowIs b u m f := fun r hne => r.of_block (hgr.block _ r.lt (own_tag_ne ha.own r hne))
  have kch := kept ha.ch (by decide)
  have kbox := kept ha.box (by decide)
  have kvms := kept ha.vms (by decide)
  have ksc := kept ha.sc.at_ (by decide)
  have ktx := kept ha.sc.text (by decide)
  refine ⟨(ha.fr.grown hgr (fun k hk => ?_)).set (Or.inl (Or.inr (Or.inl rfl))) _, ⟨ksc.setOther (tag_ne ksc kch (by decide)) _, ktx.setOther (tag_ne ktx kch (by decide)) _⟩, kbox.setOther (tag_ne kbox kch (by decide)) _, kvms.setOther (tag_ne kvms kch (by decide)) _,
    (kch.set 0 _).congr (fun j hj => by simp; omega), ?_, h.bkN, h.vbN, fun g' hg' => ?_⟩
  · rcases h.vcO k hk with hv | hv
    · exact Or.inl (Or.inr (Or.inr hv.symm))
    · exact Or.inr hv
  · rw [nums_succ]
    refine own_of_block hown (fun g' hg' => Below.heap_setCell _ _ _ _ (fun e => own_tag_ne hown kch (by decide) (by rw [hg']; exact congrArg some e.symm)))
  · have e : g = g' := by simpa [Value.ownBlock] using hg'
    subst e
    rcases hat with hat | hat
    · exact h.vcO _ hat
    · exact Or.inr (by have := h.fr.size; omega)

/-- one span more -/
theorem span (h : BS w0 w sb tb n t chb bk vb base v0 p0 p K mc vc en tx) (a b : Nat) (o : Obj) :
    BS w0 ((((w.alloc o).setCell ⟨vb, K.length * 2, none⟩ (.int .i64 ((a : Int) - p0))).setCell ⟨vb, K.length * 2 + 1, none⟩ (.int .i64 ((b : Int) - p0))).setCell ⟨bk, 3, none⟩ (.slice (some ⟨vb, 0, none⟩) (K.length + 1) 64)) sb tb n t chb bk vb base v0 p0 p (K ++ [(a, b)]) mc vc en tx := by
  have ha := h.alloc o
  have nv : ∀ {c : Nat} {u : TypeId} {m : Nat} {f : Nat → Value}, (w.alloc o).rowIs c u m f → u ≠ 94 → c ≠ vb := fun r hne => tag_ne r ha.vms hne
  have nb : ∀ {c : Nat} {u : TypeId} {m : Nat} {f : Nat → Value}, (w.alloc o).rowIs c u m f → u ≠ 89 → c ≠ bk := fun r hne => tag_ne r ha.box hne
  have thru : ∀ {c : Nat} {u : TypeId} {m : Nat} {f : Nat → Value}, (w.alloc o).rowIs c u m f → u ≠ 94 → u ≠ 89 → ((((w.alloc o).setCell ⟨vb, K.length * 2, none⟩ (.int .i64 ((a : Int) - p0))).setCell ⟨vb, K.length * 2 + 1, none⟩ (.int .i64 ((b : Int) - p0))).setCell ⟨bk, 3, none⟩ (.slice (some ⟨vb, 0, none⟩) (K.length + 1) 64)).rowIs c u m f :=
    fun r h1 h2 => ((r.setOther (nv r h1) _).setOther (nv r h1) _).setOther (nb r h2) _
  refine ⟨((ha.fr.set (Or.inr h.vbN) _).set (Or.inr h.vbN) _).set (Or.inr h.bkN) _, ⟨thru ha.sc.at_ (by decide) (by decide), thru ha.sc.text (by decide) (by decide)⟩, ?_, ?_, thru ha.ch (by decide) (by decide), ?_, h.bkN, h.vbN, h.vcO⟩
  · refine ((((ha.box.setOther (nv ha.box (by decide)) _).setOther (nv ha.box (by decide)) _).set 3 _).congr (fun j hj => ?_))
    by_cases e : j = 3
    · subst e; simp [bkc]
    · rw [if_neg e]
      match j, hj, e with
      | 0, _, _ => rfl
      | 1, _, _ => rfl
      | 2, _, _ => rfl
      | 3, _, e => exact absurd rfl e
  · refine ((((ha.vms.set (K.length * 2) _).set (K.length * 2 + 1) _).setOther (fun e => nv ha.box (by decide) e.symm) _).congr (fun j hj => ?_))
    rw [← spc_snoc p0 K a b j, Nat.mul_comm]
  · refine own_of_block ha.own (fun g hg => ?_)
    have n1 : g ≠ vb := fun e => own_tag_ne ha.own ha.vms (by decide) (by rw [hg, e])
    have n2 : g ≠ bk := fun e => own_tag_ne ha.own ha.box (by decide) (by rw [hg, e])
    rw [Below.heap_setCell _ _ _ _ n2, Below.heap_setCell _ _ _ _ n1, Below.heap_setCell _ _ _ _ n1]

/-- 'block.end = ..' -/
theorem setEnd (h : BS w0 w sb tb n t chb bk vb base v0 p0 p K mc vc en tx) (en' : Int) : BS w0 (w.setCell ⟨bk, 1, none⟩ (.int .i64 en')) sb tb n t chb bk vb base v0 p0 p K mc vc en' tx := by
  have nb : ∀ {c : Nat} {u : TypeId} {m : Nat} {f : Nat → Value}, w.rowIs c u m f → u ≠ 89 → c ≠ bk := fun r hne => tag_ne r h.box hne
  refine ⟨h.fr.set (Or.inr h.bkN) _, ⟨h.sc.at_.setOther (nb h.sc.at_ (by decide)) _, h.sc.text.setOther (nb h.sc.text (by decide)) _⟩, ?_, h.vms.setOther (nb h.vms (by decide)) _, h.ch.setOther (nb h.ch (by decide)) _, ?_, h.bkN, h.vbN, h.vcO⟩
  · refine (h.box.set 1 _).congr (fun j hj => ?_)
    by_cases e : j = 1
    · subst e; simp [bkc]
    · rw [if_neg e]
      match j, hj, e with
      | 0, _, _ => rfl
      | 1, _, e => exact absurd rfl e
      | 2, _, _ => rfl
      | 3, _, _ => rfl
  · refine own_of_block h.own (fun g hg => Below.heap_setCell _ _ _ _ (fun e => own_tag_ne h.own h.box (by decide) (by rw [hg]; exact congrArg some e.symm)))

/-- 'block.text = ..' -/
theorem setText (h : BS w0 w sb tb n t chb bk vb base v0 p0 p K mc vc en tx) (tx' : Value) : BS w0 (w.setCell ⟨bk, 2, none⟩ tx') sb tb n t chb bk vb base v0 p0 p K mc vc en tx' := by
  have nb : ∀ {c : Nat} {u : TypeId} {m : Nat} {f : Nat → Value}, w.rowIs c u m f → u ≠ 89 → c ≠ bk := fun r hne => tag_ne r h.box hne
  refine ⟨h.fr.set (Or.inr h.bkN) _, ⟨h.sc.at_.setOther (nb h.sc.at_ (by decide)) _, h.sc.text.setOther (nb h.sc.text (by decide)) _⟩, ?_, h.vms.setOther (nb h.vms (by decide)) _, h.ch.setOther (nb h.ch (by decide)) _, ?_, h.bkN, h.vbN, h.vcO⟩
  · refine (h.box.set 2 _).congr (fun j hj => ?_)
    by_cases e : j = 2
    · subst e; simp [bkc]
    · rw [if_neg e]
      match j, hj, e with
      | 0, _, _ => rfl
      | 1, _, _ => rfl
      | 2, _, e => exact absurd rfl e
      | 3, _, _ => rfl
  · refine own_of_block h.own (fun g hg => Below.heap_setCell _ _ _ _ (fun e => own_tag_ne h.own h.box (by decide) (by rw [hg]; exact congrArg some e.symm)))

theorem b0 (h : BS w0 w sb tb n t chb bk vb base v0 p0 p K mc vc en tx) : w.cell? ⟨bk, 0, none⟩ = some (.int .i64 p0) := h.box.cell (i := 0) (by omega)
theorem b1 (h : BS w0 w sb tb n t chb bk vb base v0 p0 p K mc vc en tx) : w.cell? ⟨bk, 1, none⟩ = some (.int .i64 en) := h.box.cell (i := 1) (by omega)
theorem b2 (h : BS w0 w sb tb n t chb bk vb base v0 p0 p K mc vc en tx) : w.cell? ⟨bk, 2, none⟩ = some tx := h.box.cell (i := 2) (by omega)
theorem b3 (h : BS w0 w sb tb n t chb bk vb base v0 p0 p K mc vc en tx) : w.cell? ⟨bk, 3, none⟩ = some (.slice (some ⟨vb, 0, none⟩) K.length 64) := h.box.cell (i := 3) (by omega)
theorem c0 (h : BS w0 w sb tb n t chb bk vb base v0 p0 p K mc vc en tx) : w.cell? ⟨chb, 0, none⟩ = some vc := h.ch.cell (i := 0) (by omega)
end BS

theorem Try.info94 : (Try.prog.info? 94).map (fun i => (i.zero, i.size, i.bytes)) = some (some (.agg #[.int .i64 0, .int .i64 0]), 2, 16) := by kernel_rfl
theorem Try.info89 : (Try.prog.info? 89).map (fun i => (i.zero, i.size, i.bytes)) = some (some (.agg #[.int .i64 0, .int .i64 0, .slice none 0 0, .slice none 0 0]), 4, 64) := by kernel_rfl

theorem mk87 (w : World) : (Instr.makeSlice 87 (.int .i64 0) (.int .i64 64)).run Try.prog w = .ok (.slice (some ⟨w.heap.size, 0, none⟩) 0 64) (w.alloc (.cells (madeCells #[.int .i64 0, .int .i64 0] 128) 94)) := by
  obtain ⟨i0, hi, hz0, hz1, hz2⟩ := info_parts Try.info94
  have hr := run_make (P := Try.prog) w 87 94 i0 _ Try.underlying87 hi hz0 .i64 .i64 0 64 (by omega) (by omega) (by rw [hz2]; decide) (by omega)
  rw [hz1] at hr
  exact hr

theorem BS.start {w : World} {sb tb n : Nat} {t : Nat → Int} {chb base : Nat} {v0 : Value} {p0 m0 : Nat} (hS : Sc w sb tb n t p0) (hc : w.rowIs chb 28 1 (fun _ => v0)) (ho : w.ownsRow base 3 1 v0 m0 (nums m0)) :
    BS w ((w.alloc (.cells #[.int .i64 (p0 : Int), .int .i64 0, .slice none 0 0, .slice (some ⟨w.heap.size + 1, 0, none⟩) 0 64] 89)).alloc (.cells (madeCells #[.int .i64 0, .int .i64 0] 128) 94)).drew sb tb n t chb w.heap.size (w.heap.size + 1) base v0 p0 p0 [] m0 v0 0 (.slice none 0 0) := by
  refine BS.drew ⟨((Fr.refl _ w).alloc _).alloc _, ⟨(hS.at_.alloc _).alloc _, (hS.text.alloc _).alloc _⟩, ?_, ?_, (hc.alloc _).alloc _, (ho.alloc _).alloc _, Nat.le_refl _, Nat.le_succ _, fun g hg => Or.inl hg⟩
  · refine (World.rowIs_alloc w #[.int .i64 (p0 : Int), .int .i64 0, .slice none 0 0, .slice (some ⟨w.heap.size + 1, 0, none⟩) 0 64] 89 (bkc (.int .i64 p0) (.int .i64 0) (.slice none 0 0) (.slice (some ⟨w.heap.size + 1, 0, none⟩) 0 64)) (fun k hk => ?_)).alloc _
    match k, hk with
    | 0, _ => rfl
    | 1, _ => rfl
    | 2, _ => rfl
    | 3, _ => rfl
  · have h := World.rowIs_alloc (w.alloc (.cells #[.int .i64 (p0 : Int), .int .i64 0, .slice none 0 0, .slice (some ⟨w.heap.size + 1, 0, none⟩) 0 64] 89)) (madeCells #[.int .i64 0, .int .i64 0] 128) 94 (fun _ => .int .i64 0) (fun k hk => by
      rw [size_madeCells] at hk
      have : k % 2 = 0 ∨ k % 2 = 1 := by omega
      rcases this with h | h <;> simp [madeCells, hk, h])
    rw [World.size_alloc, size_madeCells] at h
    exact h.congr (fun j _ => by simp [spc])

/-- what '(*scanner).block' leaves in memory -/
structure BE (w0 w : World) (sb tb n : Nat) (t : Nat → Int) (chb vb base : Nat) (v0 : Value) (p0 p : Nat) (K : List (Nat × Nat)) (mc : Nat) (vc : Value) : Prop where
  fr : Fr (fun k => k = sb ∨ k = chb ∨ some k = v0.ownBlock) w0 w
  sc : Sc w sb tb n t p
  vms : w.rowIs vb 94 128 (spc p0 K)
  ch : w.rowIs chb 28 1 (fun _ => vc)
  own : w.ownsRow base 3 1 vc mc (nums mc)
  vbN : w0.heap.size ≤ vb
  vcO : ∀ g, vc.ownBlock = some g → v0.ownBlock = some g ∨ w0.heap.size ≤ g

theorem results45 {tmps : Array Value} {bk : Nat} {a b c d x y : Value} {W : World} (h8 : tmps.getD 8 undef = .pointer (some ⟨bk, 0, none⟩)) (h9 : tmps.getD 9 undef = x) (h10 : tmps.getD 10 undef = y) (hr : W.rowIs bk 89 4 (bkc a b c d)) :
    (results Try.f45 tmps).run Try.prog W = .ok (.tuple #[.agg #[a, b, c, d], x, y]) W := by
  have c0 : W.cell? ⟨bk, 0, none⟩ = some a := hr.cell (i := 0) (by omega)
  have c1 : W.cell? ⟨bk, 1, none⟩ = some b := hr.cell (i := 1) (by omega)
  have c2 : W.cell? ⟨bk, 2, none⟩ = some c := hr.cell (i := 2) (by omega)
  have c3 : W.cell? ⟨bk, 3, none⟩ = some d := hr.cell (i := 3) (by omega)
  rw [Array.getD_eq_getD_getElem?] at h8 h9 h10
  simp [results, Try.results45, go_sem, h8, h9, h10, c0, c1, c2, c3]

/-- the box written anew, all four cells -/
theorem box_all {w : World} {bk : Nat} {f : Nat → Value} (h : w.rowIs bk 89 4 f) (a b c d : Value) : ((((w.setCell ⟨bk, 0, none⟩ a).setCell ⟨bk, 1, none⟩ b).setCell ⟨bk, 2, none⟩ c).setCell ⟨bk, 3, none⟩ d).rowIs bk 89 4 (bkc a b c d) :=
  ((((h.set 0 a).set 1 b).set 2 c).set 3 d).congr (fun j hj => by
    match j, hj with
    | 0, _ => rfl
    | 1, _ => rfl
    | 2, _ => rfl
    | 3, _ => rfl)

/-- behind the four stores into the box -/
theorem BS.boxed {w0 w : World} {sb tb n : Nat} {t : Nat → Int} {chb bk vb base : Nat} {v0 : Value} {p0 p : Nat} {K : List (Nat × Nat)} {mc : Nat} {vc : Value} {en : Int} {tx : Value} (h : BS w0 w sb tb n t chb bk vb base v0 p0 p K mc vc en tx) (a b c d : Value) :
    BE w0 ((((w.setCell ⟨bk, 0, none⟩ a).setCell ⟨bk, 1, none⟩ b).setCell ⟨bk, 2, none⟩ c).setCell ⟨bk, 3, none⟩ d) sb tb n t chb vb base v0 p0 p K mc vc := by
  have thru : ∀ {q : Nat} {u : TypeId} {m : Nat} {f : Nat → Value}, w.rowIs q u m f → u ≠ 89 → ((((w.setCell ⟨bk, 0, none⟩ a).setCell ⟨bk, 1, none⟩ b).setCell ⟨bk, 2, none⟩ c).setCell ⟨bk, 3, none⟩ d).rowIs q u m f := fun r hne => (((r.setOther (tag_ne r h.box hne) _).setOther (tag_ne r h.box hne) _).setOther (tag_ne r h.box hne) _).setOther (tag_ne r h.box hne) _
  refine ⟨(((h.fr.set (Or.inr h.bkN) _).set (Or.inr h.bkN) _).set (Or.inr h.bkN) _).set (Or.inr h.bkN) _, ⟨thru h.sc.at_ (by decide), thru h.sc.text (by decide)⟩, thru h.vms (by decide), thru h.ch (by decide), ?_, h.vbN, h.vcO⟩
  refine own_of_block h.own (fun g hg => ?_)
  have n2 : g ≠ bk := fun e => own_tag_ne h.own h.box (by decide) (by rw [hg, e])
  rw [Below.heap_setCell _ _ _ _ n2, Below.heap_setCell _ _ _ _ n2, Below.heap_setCell _ _ _ _ n2, Below.heap_setCell _ _ _ _ n2]

theorem BS.chKept {w0 w w1 : World} {sb tb n : Nat} {t : Nat → Int} {chb bk vb base : Nat} {v0 : Value} {p0 p : Nat} {K : List (Nat × Nat)} {mc : Nat} {vc : Value} {en : Int} {tx : Value} {o : Obj} (h : BS w0 w sb tb n t chb bk vb base v0 p0 p K mc vc en tx) (hgr : (w.alloc o).grownBy w1 vc.ownBlock) : w1.rowIs chb 28 1 (fun _ => vc) :=
  (h.alloc o).ch.of_block (hgr.block _ (h.alloc o).ch.lt (own_tag_ne (h.alloc o).own (h.alloc o).ch (by decide)))

theorem q22n (w : World) (a : Option Addr) (n c n' c' : Nat) : (binOp .neq 22 (.slice a n c) (.slice none n' c')).run Try.prog w = .ok (.bool !a.isNone) w := run_neq_slice_nil_any w _ _ a n c n' c' Try.underlying22

/-- does the array close at p -/
def cl (t : Nat → Int) (n p : Nat) : Bool := decide (p < n) && (t p == 93)

def zeroB : Value := .agg #[.int .i64 0, .int .i64 0, .slice none 0 0, .slice none 0 0]
def blockV (tb n p0 en vb k : Nat) : Value := .agg #[.int .i64 (p0 : Int), .int .i64 (en : Int), .slice (some ⟨tb, p0, none⟩) (en - p0) (n - p0), .slice (some ⟨vb, 0, none⟩) k 64]

def Bpost (w0 : World) (sb tb n : Nat) (t : Nat → Int) (chb base : Nat) (v0 : Value) (p0 m0 : Nat) (L0 : List (Nat × Nat)) (e : Ending) (w : World) : Prop :=
  (∃ q vc, am t n p0 L0 = ([], false, q) ∧ e = .returned (.tuple #[zeroB, .bool false, .bool false]) ∧ Fr (fun k => k = sb ∨ k = chb ∨ some k = v0.ownBlock) w0 w ∧ Sc w sb tb n t q ∧ w.rowIs chb 28 1 (fun _ => vc)) ∨
  (∃ (K : List (Nat × Nat)) (more : Bool) (p en vb : Nat) (vc : Value), e = .returned (.tuple #[blockV tb n p0 en vb K.length, .bool more, .bool true]) ∧ 0 < K.length ∧ K.length ≤ 64 ∧ p0 < en ∧ en ≤ n ∧ p ≤ n ∧ p0 + K.length ≤ p ∧ (K.getD 0 (0, 0)).1 = p0 ∧
    BE w0 w sb tb n t chb vb base v0 p0 p K (m0 + K.length) vc ∧
    ((more = true ∧ K.length = 64 ∧ en = p ∧ am t n p0 L0 = am t n p (L0 ++ K)) ∨
     (more = false ∧ (∃ K' s, K = K' ++ [(s, en)]) ∧ am t n p0 L0 = (L0 ++ K, cl t n p, if cl t n p = true then p + 1 else p))))

end Go.Proofs.Qxb6603699a
