import Derived.Test.Qxb6603699aBlk
namespace Go.Proofs.Qxb6603699a
open Go.RowKit

theorem Fr.trans {p q : Nat → Prop} {a b c : World} (h : Fr p a b) (g : Fr q b c) (hq : ∀ k, q k → p k ∨ a.heap.size ≤ k) : Fr p a c :=
  ⟨g.os.trans h.os, g.tape.trans h.tape, g.output.trans h.output, Nat.le_trans h.size g.size, fun k hk hp => (g.block k (by have := h.size; omega) (fun hqk => by rcases hq k hqk with h1 | h1; exact hp h1; omega)).trans (h.block k hk hp)⟩

/-- the four cells of one block -/
def bcell (tb n : Nat) (St En VB Kn : Nat → Nat) (c : Nat) : List Value := [.int .i64 (St c : Int), .int .i64 (En c : Int), .slice (some ⟨tb, St c, none⟩) (En c - St c) (n - St c), .slice (some ⟨VB c, 0, none⟩) (Kn c) 64]
/-- the cells of b blocks -/
def bcs (tb n : Nat) (St En VB Kn : Nat → Nat) (b : Nat) : List Value := (List.range b).flatMap (bcell tb n St En VB Kn)

theorem bcs_succ (tb n : Nat) (St En VB Kn : Nat → Nat) (b : Nat) : bcs tb n St En VB Kn (b + 1) = bcs tb n St En VB Kn b ++ bcell tb n St En VB Kn b := by
  simp [bcs, List.range_succ]
theorem bcs_length (tb n : Nat) (St En VB Kn : Nat → Nat) : ∀ b, (bcs tb n St En VB Kn b).length = b * 4
  | 0 => rfl
  | b + 1 => by rw [bcs_succ, List.length_append, bcs_length tb n St En VB Kn b]; simp [bcell]; omega
theorem bcs_at (tb n : Nat) (St En VB Kn : Nat → Nat) : ∀ b c i, c < b → i < 4 → (bcs tb n St En VB Kn b)[c * 4 + i]? = (bcell tb n St En VB Kn c)[i]?
  | 0, c, i, h, _ => by omega
  | b + 1, c, i, h, hi => by
    rw [bcs_succ]
    by_cases e : c < b
    · rw [List.getElem?_append_left (by rw [bcs_length]; omega)]
      exact bcs_at tb n St En VB Kn b c i e hi
    · have : c = b := by omega
      subst this
      rw [List.getElem?_append_right (by rw [bcs_length]; omega), bcs_length]
      congr 1
      omega
theorem bcs_congr (tb n : Nat) {St En VB Kn St' En' VB' Kn' : Nat → Nat} (b : Nat) (h : ∀ c, c < b → St c = St' c ∧ En c = En' c ∧ VB c = VB' c ∧ Kn c = Kn' c) : bcs tb n St En VB Kn b = bcs tb n St' En' VB' Kn' b := by
  unfold bcs
  induction b with
  | zero => rfl
  | succ b ih =>
    rw [List.range_succ, List.flatMap_append, List.flatMap_append, ih (fun c hc => h c (by omega))]
    obtain ⟨h1, h2, h3, h4⟩ := h b (by omega)
    simp [bcell, h1, h2, h3, h4]

/-- the elements of block c -/
def part (L : List (Nat × Nat)) (c : Nat) : List (Nat × Nat) := (L.drop (64 * c)).take 64
def fstAt (L : List (Nat × Nat)) (k : Nat) : Nat := (L.getD k (0, 0)).1
def sndAt (L : List (Nat × Nat)) (k : Nat) : Nat := (L.getD k (0, 0)).2

theorem part_left (L K : List (Nat × Nat)) (c : Nat) (h : 64 * (c + 1) ≤ L.length) : part (L ++ K) c = part L c := by
  unfold part
  rw [List.drop_append_of_le_length (by omega), List.take_append_of_le_length (by simp; omega)]
theorem part_right (L K : List (Nat × Nat)) (c : Nat) (h : 64 * c = L.length) (hk : K.length ≤ 64) : part (L ++ K) c = K := by
  unfold part
  rw [h, List.drop_left, List.take_of_length_le hk]
theorem fstAt_left (L K : List (Nat × Nat)) (k : Nat) (h : k < L.length) : fstAt (L ++ K) k = fstAt L k := by
  unfold fstAt
  rw [List.getD_eq_getElem?_getD, List.getElem?_append_left h, ← List.getD_eq_getElem?_getD]
theorem fstAt_right (L K : List (Nat × Nat)) : fstAt (L ++ K) L.length = (K.getD 0 (0, 0)).1 := by
  unfold fstAt
  rw [List.getD_eq_getElem?_getD, List.getElem?_append_right (Nat.le_refl _), Nat.sub_self, ← List.getD_eq_getElem?_getD]

/-- The state of '(*scanner).array' behind b blocks of 64. -/
structure AS (w0 w : World) (sb tb n : Nat) (t : Nat → Int) (chb p : Nat) (L0 : List (Nat × Nat)) (b : Nat) (bv vc : Value) (St En VB : Nat → Nat) : Prop where
  fr : Fr (fun k => k = sb) w0 w
  sc : Sc w sb tb n t p
  ch : w.rowIs chb 28 1 (fun _ => vc)
  chN : w0.heap.size ≤ chb
  own : w.ownsRow w0.heap.size 3 1 vc (64 * b) (nums (64 * b))
  bl : w.ownsRow w0.heap.size 89 4 bv b (bcs tb n St En VB (fun _ => 64) b)
  len : L0.length = 64 * b
  st : ∀ c, c < b → St c = fstAt L0 (64 * c)
  en : ∀ c, c < b → En c = if c + 1 < b then fstAt L0 (64 * (c + 1)) else p
  ne : ∀ c, c < b → St c < En c ∧ En c ≤ n
  vm : ∀ c, c < b → w.rowIs (VB c) 94 128 (spc (St c) (part L0 c))

/-- WHAT '(*scanner).array' LEAVES: r: 'arr'. -/
structure AE (w0 w : World) (sb tb n : Nat) (t : Nat → Int) (r : List (Nat × Nat) × Bool × Nat) (bv cv : Value) (nb : Nat) (St En VB : Nat → Nat) : Prop where
  fr : Fr (fun k => k = sb) w0 w
  sc : Sc w sb tb n t r.2.2
  own : w.ownsRow w0.heap.size 3 1 cv r.1.length (nums r.1.length)
  bl : w.ownsRow w0.heap.size 89 4 bv nb (bcs tb n St En VB (fun c => (part r.1 c).length) nb)
  cnt : nb = (r.1.length + 63) / 64
  st : ∀ c, c < nb → St c = fstAt r.1 (64 * c)
  en : ∀ c, c < nb → En c = if c + 1 < nb then fstAt r.1 (64 * (c + 1)) else sndAt r.1 (r.1.length - 1)
  ne : ∀ c, c < nb → St c < En c ∧ En c ≤ n
  vm : ∀ c, c < nb → w.rowIs (VB c) 94 128 (spc (St c) (part r.1 c))

def Apost (w0 : World) (sb tb n : Nat) (t : Nat → Int) (r : List (Nat × Nat) × Bool × Nat) (e : Ending) (w : World) : Prop :=
  ∃ bv cv nb St En VB, e = .returned (.tuple #[bv, cv, .bool r.2.1]) ∧ AE w0 w sb tb n t r bv cv nb St En VB

/-- nothing was read -/
theorem AE.none {w0 w : World} {sb tb n : Nat} {t : Nat → Int} {q : Nat} (b : Bool) (fr : Fr (fun k => k = sb) w0 w) (sc : Sc w sb tb n t q) : AE w0 w sb tb n t ([], b, q) (.slice none 0 0) (.slice none 0 0) 0 (fun _ => 0) (fun _ => 0) (fun _ => 0) :=
  ⟨fr, sc, World.ownsRow_nil _ _ _ _, World.ownsRow_nil _ _ _ _, by simp, fun c h => by omega, fun c h => by omega, fun c h => by omega, fun c h => by omega⟩

/-- behind the call of block: what array's own memory holds -/
theorem AS.after {w0 w w1 : World} {sb tb n : Nat} {t : Nat → Int} {chb p : Nat} {L0 : List (Nat × Nat)} {b : Nat} {bv vc : Value} {St En VB : Nat → Nat} (h : AS w0 w sb tb n t chb p L0 b bv vc St En VB)
    (fr : Fr (fun k => k = sb ∨ k = chb ∨ some k = vc.ownBlock) w w1) :
    Fr (fun k => k = sb) w0 w1 ∧ w1.ownsRow w0.heap.size 89 4 bv b (bcs tb n St En VB (fun _ => 64) b) ∧ ∀ c, c < b → w1.rowIs (VB c) 94 128 (spc (St c) (part L0 c)) := by
  have hn : ∀ {q : Nat} {u : TypeId} {m : Nat} {f : Nat → Value}, w.rowIs q u m f → u ≠ 66 → u ≠ 28 → u ≠ 3 → w1.rowIs q u m f := fun r h1 h2 h3 =>
    r.of_block (fr.block _ r.lt (by
      rintro (e | e | e)
      · exact tag_ne r h.sc.at_ h1 e
      · exact tag_ne r h.ch h2 e
      · exact own_tag_ne h.own r h3 e))
  refine ⟨h.fr.trans fr ?_, own_of_block h.bl (fun g hg => fr.block g (h.bl.lt g hg).2 ?_), fun c hc => hn (h.vm c hc) (by decide) (by decide) (by decide)⟩
  · rintro k (e | e | e)
    · exact Or.inl e
    · exact Or.inr (by rw [e]; exact h.chN)
    · exact Or.inr (h.own.lt k e.symm).1
  · rintro (e | e | e)
    · exact own_tag_ne h.bl h.sc.at_ (by decide) (by rw [hg, e])
    · exact own_tag_ne h.bl h.ch (by decide) (by rw [hg, e])
    · obtain ⟨c1, k1⟩ := own_tag h.bl hg
      obtain ⟨c2, k2⟩ := own_tag h.own e.symm
      rw [k1] at k2
      simp at k2

theorem mk70 (w : World) : (Instr.makeSlice 70 (.int .i64 0) (.int .i64 0)).run Try.prog w = .ok (.slice (some ⟨w.heap.size, 0, none⟩) 0 0) (w.alloc (.cells #[] 89)) := by
  obtain ⟨i0, hi, hz0, hz1, hz2⟩ := info_parts Try.info89
  have hr := run_make (P := Try.prog) w 70 89 i0 _ Try.underlying70 hi hz0 .i64 .i64 0 0 (by omega) (by omega) (by omega) (by omega)
  rw [hz1] at hr
  rw [show ∀ z : Array Value, madeCells z (Int.toNat 0 * 4) = #[] from fun z => Array.eq_empty_of_size_eq_zero (size_madeCells _ _)] at hr
  exact hr

/-- one block more, in memory -/
theorem AS.push {w0 w w1 w2 : World} {sb tb n : Nat} {t : Nat → Int} {chb p p' : Nat} {L0 K : List (Nat × Nat)} {b : Nat} {bv vc vc' : Value} {St En VB : Nat → Nat} {vb en g cap : Nat} {o1 o2 : Obj} (h : AS w0 w sb tb n t chb p L0 b bv vc St En VB)
    (be : BE w w1 sb tb n t chb vb w0.heap.size vc p p' K (64 * b + K.length) vc') (hgr : ((w1.alloc o1).alloc o2).grownBy w2 bv.ownBlock) 
    (hown : w2.ownsRow w0.heap.size 89 4 (.slice (some ⟨g, 0, none⟩) (b + 1) cap) (b + 1) (bcs tb n St En VB (fun _ => 64) b ++ [.int .i64 (p : Int), .int .i64 (en : Int), .slice (some ⟨tb, p, none⟩) (en - p) (n - p), .slice (some ⟨vb, 0, none⟩) K.length 64])) :
    Fr (fun k => k = sb) w0 w2 ∧ Sc w2 sb tb n t p' ∧ w2.rowIs chb 28 1 (fun _ => vc') ∧ w2.ownsRow w0.heap.size 3 1 vc' (64 * b + K.length) (nums (64 * b + K.length)) ∧
      (∀ c, c < b → w2.rowIs (VB c) 94 128 (spc (St c) (part L0 c))) ∧ w2.rowIs vb 94 128 (spc p K) ∧
      w2.ownsRow w0.heap.size 89 4 (.slice (some ⟨g, 0, none⟩) (b + 1) cap) (b + 1)
        (bcs tb n (fun c => if c = b then p else St c) (fun c => if c = b then en else En c) (fun c => if c = b then vb else VB c) (fun c => if c = b then K.length else 64) (b + 1)) := by
  obtain ⟨f1, bl1, vm1⟩ := h.after be.fr
  have blA := (bl1.alloc o1).alloc o2
  have kept : ∀ {q : Nat} {u : TypeId} {m : Nat} {f : Nat → Value}, w1.rowIs q u m f → u ≠ 89 → w2.rowIs q u m f := fun r hne =>
    ((r.alloc o1).alloc o2).of_block (hgr.block _ ((r.alloc o1).alloc o2).lt (own_tag_ne blA ((r.alloc o1).alloc o2) hne))
  refine ⟨((f1.alloc o1).alloc o2).grown hgr (fun k hk => Or.inr (h.bl.lt k hk).1), ⟨kept be.sc.at_ (by decide), kept be.sc.text (by decide)⟩, kept be.ch (by decide), ?_, fun c hc => kept (vm1 c hc) (by decide), kept be.vms (by decide), ?_⟩
  · have oA := (be.own.alloc o1).alloc o2
    refine own_of_block oA (fun g' hg' => hgr.block g' (oA.lt g' hg').2 (fun e => ?_))
    obtain ⟨c1, k1⟩ := own_tag oA hg'
    obtain ⟨c2, k2⟩ := own_tag blA e.symm
    rw [k1] at k2
    simp at k2
  · rw [bcs_succ]
    have e1 : bcs tb n (fun c => if c = b then p else St c) (fun c => if c = b then en else En c) (fun c => if c = b then vb else VB c) (fun c => if c = b then K.length else 64) b = bcs tb n St En VB (fun _ => 64) b := bcs_congr tb n b (fun c hc => by
      have : ¬ c = b := by omega
      simp [this])
    rw [e1]
    have e2 : bcell tb n (fun c => if c = b then p else St c) (fun c => if c = b then en else En c) (fun c => if c = b then vb else VB c) (fun c => if c = b then K.length else 64) b = [.int .i64 (p : Int), .int .i64 (en : Int), .slice (some ⟨tb, p, none⟩) (en - p) (n - p), .slice (some ⟨vb, 0, none⟩) K.length 64] := by simp [bcell]
    rw [e2]
    exact hown

/-- a full block, and the array goes on -/
theorem AS.next {w0 w w1 w2 : World} {sb tb n : Nat} {t : Nat → Int} {chb p p' : Nat} {L0 K : List (Nat × Nat)} {b : Nat} {bv vc vc' : Value} {St En VB : Nat → Nat} {vb g cap : Nat} {o1 o2 : Obj} (h : AS w0 w sb tb n t chb p L0 b bv vc St En VB)
    (be : BE w w1 sb tb n t chb vb w0.heap.size vc p p' K (64 * b + K.length) vc') (hgr : ((w1.alloc o1).alloc o2).grownBy w2 bv.ownBlock)
    (hown : w2.ownsRow w0.heap.size 89 4 (.slice (some ⟨g, 0, none⟩) (b + 1) cap) (b + 1) (bcs tb n St En VB (fun _ => 64) b ++ [.int .i64 (p : Int), .int .i64 (p' : Int), .slice (some ⟨tb, p, none⟩) (p' - p) (n - p), .slice (some ⟨vb, 0, none⟩) K.length 64]))
    (hK : K.length = 64) (hpp : p < p') (hp' : p' ≤ n) (hd : (K.getD 0 (0, 0)).1 = p) :
    AS w0 w2 sb tb n t chb p' (L0 ++ K) (b + 1) (.slice (some ⟨g, 0, none⟩) (b + 1) cap) vc' (fun c => if c = b then p else St c) (fun c => if c = b then p' else En c) (fun c => if c = b then vb else VB c) := by
  obtain ⟨h1, h2, h3, h4, h5, h6, h7⟩ := h.push be hgr hown
  have hl := h.len
  have e64 : (fun c => if c = b then K.length else 64) = (fun _ => 64) := by funext c; split <;> omega
  rw [e64] at h7
  rw [hK, show 64 * b + 64 = 64 * (b + 1) by omega] at h4
  refine ⟨h1, h2, h3, h.chN, h4, h7, by rw [List.length_append]; omega, fun c hc => ?_, fun c hc => ?_, fun c hc => ?_, fun c hc => ?_⟩
  · by_cases e : c = b
    · subst e
      rw [if_pos rfl, ← hl, fstAt_right, hd]
    · rw [if_neg e, fstAt_left _ _ _ (by omega)]
      exact h.st c (by omega)
  · by_cases e : c = b
    · subst e
      rw [if_pos rfl, if_neg (by omega)]
    · rw [if_neg e, if_pos (by omega), h.en c (by omega)]
      by_cases e2 : c + 1 < b
      · rw [if_pos e2, fstAt_left _ _ _ (by omega)]
      · rw [if_neg e2, show 64 * (c + 1) = L0.length by omega, fstAt_right, hd]
  · by_cases e : c = b
    · rw [if_pos e, if_pos e]; exact ⟨hpp, hp'⟩
    · rw [if_neg e, if_neg e]; exact h.ne c (by omega)
  · by_cases e : c = b
    · subst e
      rw [if_pos rfl, if_pos rfl, part_right _ _ _ hl.symm (by omega)]
      exact h6
    · rw [if_neg e, if_neg e, part_left _ _ _ (by omega)]
      exact h5 c (by omega)

/-- the last block -/
theorem AS.last {w0 w w1 w2 : World} {sb tb n : Nat} {t : Nat → Int} {chb p p' : Nat} {L0 K : List (Nat × Nat)} {b : Nat} {bv vc vc' : Value} {St En VB : Nat → Nat} {vb en g cap : Nat} {o1 o2 : Obj} (h : AS w0 w sb tb n t chb p L0 b bv vc St En VB)
    (be : BE w w1 sb tb n t chb vb w0.heap.size vc p p' K (64 * b + K.length) vc') (hgr : ((w1.alloc o1).alloc o2).grownBy w2 bv.ownBlock)
    (hown : w2.ownsRow w0.heap.size 89 4 (.slice (some ⟨g, 0, none⟩) (b + 1) cap) (b + 1) (bcs tb n St En VB (fun _ => 64) b ++ [.int .i64 (p : Int), .int .i64 (en : Int), .slice (some ⟨tb, p, none⟩) (en - p) (n - p), .slice (some ⟨vb, 0, none⟩) K.length 64]))
    (hK0 : 0 < K.length) (hK : K.length ≤ 64) (hpe : p < en) (hen : en ≤ n) (hd : (K.getD 0 (0, 0)).1 = p) (hlast : ∃ K' s, K = K' ++ [(s, en)]) (q : Nat) (bq : Bool) (w3 : World) (fr3 : Fr (fun k => k = sb) w0 w3) (sc3 : Sc w3 sb tb n t q) (keep : ∀ k, k ≠ sb → k ≠ chb → w3.heap[k]? = w2.heap[k]?) :
    AE w0 w3 sb tb n t (L0 ++ K, bq, q) (.slice (some ⟨g, 0, none⟩) (b + 1) cap) vc' (b + 1) (fun c => if c = b then p else St c) (fun c => if c = b then en else En c) (fun c => if c = b then vb else VB c) := by
  obtain ⟨h1, h2, h3, h4, h5, h6, h7⟩ := h.push be hgr hown
  have hl := h.len
  have kr : ∀ {x : Nat} {u : TypeId} {m : Nat} {f : Nat → Value}, w2.rowIs x u m f → u ≠ 66 → u ≠ 28 → w3.rowIs x u m f := fun r a1 a2 => r.of_block (keep _ (tag_ne r h2.at_ a1) (tag_ne r h3 a2))
  have hlen : (L0 ++ K).length = 64 * b + K.length := by rw [List.length_append]; omega
  refine ⟨fr3, sc3, ?_, ?_, ?_, fun c hc => ?_, fun c hc => ?_, fun c hc => ?_, fun c hc => ?_⟩
  · show w3.ownsRow w0.heap.size 3 1 vc' (L0 ++ K).length (nums (L0 ++ K).length)
    rw [hlen]
    exact own_of_block h4 (fun g' hg' => keep g' (fun e => own_tag_ne h4 h2.at_ (by decide) (by rw [hg', e])) (fun e => own_tag_ne h4 h3 (by decide) (by rw [hg', e])))
  · have e : bcs tb n (fun c => if c = b then p else St c) (fun c => if c = b then en else En c) (fun c => if c = b then vb else VB c) (fun c => (part (L0 ++ K) c).length) (b + 1) = bcs tb n (fun c => if c = b then p else St c) (fun c => if c = b then en else En c) (fun c => if c = b then vb else VB c) (fun c => if c = b then K.length else 64) (b + 1) := bcs_congr tb n (b + 1) (fun c hc => ⟨rfl, rfl, rfl, by
      show (part (L0 ++ K) c).length = if c = b then K.length else 64
      by_cases e : c = b
      · subst e
        rw [if_pos rfl, part_right _ _ _ hl.symm hK]
      · rw [if_neg e, part_left _ _ _ (by omega)]
        simp [part]; omega⟩)
    show w3.ownsRow w0.heap.size 89 4 _ (b + 1) (bcs tb n _ _ _ (fun c => (part (L0 ++ K) c).length) (b + 1))
    rw [e]
    exact own_of_block h7 (fun g' hg' => keep g' (fun e => own_tag_ne h7 h2.at_ (by decide) (by rw [hg', e])) (fun e => own_tag_ne h7 h3 (by decide) (by rw [hg', e])))
  · show b + 1 = ((L0 ++ K).length + 63) / 64
    rw [hlen]; omega
  · show (if c = b then p else St c) = fstAt (L0 ++ K) (64 * c)
    by_cases e : c = b
    · subst e
      rw [if_pos rfl, ← hl, fstAt_right, hd]
    · rw [if_neg e, fstAt_left _ _ _ (by omega)]
      exact h.st c (by omega)
  · show (if c = b then en else En c) = if c + 1 < b + 1 then fstAt (L0 ++ K) (64 * (c + 1)) else sndAt (L0 ++ K) ((L0 ++ K).length - 1)
    by_cases e : c = b
    · subst e
      rw [if_pos rfl, if_neg (by omega)]
      obtain ⟨K', s, rfl⟩ := hlast
      rw [← List.append_assoc]
      unfold sndAt
      rw [List.length_append]
      simp
    · rw [if_neg e, if_pos (by omega), h.en c (by omega)]
      by_cases e2 : c + 1 < b
      · rw [if_pos e2, fstAt_left _ _ _ (by omega)]
      · rw [if_neg e2, show 64 * (c + 1) = L0.length by omega, fstAt_right, hd]
  · show (if c = b then p else St c) < (if c = b then en else En c) ∧ (if c = b then en else En c) ≤ n
    by_cases e : c = b
    · rw [if_pos e, if_pos e]; exact ⟨hpe, hen⟩
    · rw [if_neg e, if_neg e]; exact h.ne c (by omega)
  · show w3.rowIs (if c = b then vb else VB c) 94 128 (spc (if c = b then p else St c) (part (L0 ++ K) c))
    by_cases e : c = b
    · subst e
      rw [if_pos rfl, if_pos rfl, part_right _ _ _ hl.symm hK]
      exact kr h6 (by decide) (by decide)
    · rw [if_neg e, if_neg e, part_left _ _ _ (by omega)]
      exact kr (h5 c (by omega)) (by decide) (by decide)

end Go.Proofs.Qxb6603699a
