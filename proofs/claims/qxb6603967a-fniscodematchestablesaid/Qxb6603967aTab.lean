import Derived.Test.Qxb6603967aPlain
namespace Go.Proofs.Qxb6603967a
open Go.RowKit

theorem z23 : (∀ w, (zeroValue 23).run Try.prog w = .ok (.agg (Array.replicate 256 (.bool false))) w) ∧ (Try.prog.info? 23).map (·.size) = some 256 :=
  zero_of_info (by kernel_rfl)

theorem setRow_at {w : World} {g : Nat} {old : Array Value} {t : TypeId} (h : w.heap[g]? = some (.cells old t (0, 0))) (cs : Array Value) : (w.setRow g cs).heap[g]? = some (.cells cs t (0, 0)) := by
  simp only [World.setRow, Array.getElem?_modify, if_pos, h]
  rfl

theorem setRow_other {w : World} {g k : Nat} (hk : k ≠ g) (cs : Array Value) : (w.setRow g cs).heap[k]? = w.heap[k]? := by
  simp only [World.setRow, Array.getElem?_modify]
  rw [if_neg (fun h => hk h.symm)]

theorem setRow_below {w w' : World} (h : Below w.heap.size w w') (cs : Array Value) : Below w.heap.size w (w'.setRow w.heap.size cs) :=
  ⟨h.1, h.2, h.3, by simpa [World.setRow] using h.4, fun k hk => (setRow_other (by omega) cs).trans (h.5 k hk)⟩

/-- The table in the making. -/
structure CT (w wr : World) (T : Int → Bool) : Prop where
  below : Below w.heap.size w wr
  size : wr.heap.size = w.heap.size + 2
  old : wr.rowIs w.heap.size 23 256 (fun _ => .bool false)
  row : wr.rowIs (w.heap.size + 1) 23 256 (fun c => .bool (T (c : Int)))

theorem CT.step {w wr : World} {T : Int → Bool} (h : CT w wr T) (k : Nat) (T' : Int → Bool) (hT : ∀ c : Nat, T' (c : Int) = (T (c : Int) || decide ((k : Int) = (c : Int)))) : CT w (wr.setCell ⟨w.heap.size + 1, k, none⟩ (.bool true)) T' := by
  refine ⟨h.below.setCell (by simp) _, by simp [h.size], h.old.setOther (by simp) _, (h.row.set k _).congr (fun j _ => ?_)⟩
  rw [hT]
  by_cases e : j = k
  · subst e; simp
  · have e' : ¬ (k : Int) = (j : Int) := by omega
    simp [e, e']

theorem CT.congr {w wr : World} {T : Int → Bool} (h : CT w wr T) (T' : Int → Bool) (hT : ∀ c : Nat, c < 256 → T' (c : Int) = T (c : Int)) : CT w wr T' :=
  ⟨h.below, h.size, h.old, World.rowIs.congr h.row (fun j hj => by rw [hT j hj])⟩

theorem CT.start (w : World) (T : Int → Bool) (hT : ∀ c : Nat, T (c : Int) = false) : CT w ((w.alloc (.cells (Array.replicate 256 (.bool false)) 23)).alloc (.cells (Array.replicate 256 (.bool false)) 23)) T := by
  have r1 := World.rowIs_alloc w (Array.replicate 256 (.bool false)) 23 (fun _ => .bool false) (fun i hi => by simp at hi; simp [hi])
  have r2 := World.rowIs_alloc (w.alloc (.cells (Array.replicate 256 (.bool false)) 23)) (Array.replicate 256 (.bool false)) 23 (fun c => .bool (T (c : Int))) (fun i hi => by simp at hi; simp [hi, hT])
  rw [Array.size_replicate] at r1 r2
  refine ⟨((Below.refl _ _).alloc (Nat.le_refl _) _).alloc (by simp) _, by simp, r1.alloc _, ?_⟩
  have e : (w.alloc (.cells (Array.replicate 256 (.bool false)) 23)).heap.size = w.heap.size + 1 := by simp
  rw [e] at r2
  exact r2

set_option maxHeartbeats 1000000 in
set_option maxRecDepth 100000 in
theorem table_any (o : ByteArray) (w : World) (hn : o.size ≤ 262144) :
    Calls Try.prog 6 #[.string o] w fun e w' => (∃ cs : Array Value, e = .returned (.agg cs) ∧ cs.size = 256 ∧ ∀ c : Nat, c < 256 → cs[c]? = some (.bool (tab o (c : Int)))) ∧ Below w.heap.size w w' := by
  have hz := z23.1
  have u23 := Try.underlying23
  go_enter Try.func6, Try.ntmps6
  go_wp2
  have hCT := CT.start w (among alnum62 0) (fun c => among_zero _ _)
  generalize (w.alloc (.cells (Array.replicate 256 (.bool false)) 23)).alloc (.cells (Array.replicate 256 (.bool false)) 23) = w0 at hCT ⊢
  go_loopg [4] 62 (fun g v wr => ∃ i : Nat, i + g = 62 ∧ v = .int .i64 i ∧ CT w wr (among alnum62 i))
  case atStart => exact ⟨0, rfl, rfl, hCT⟩
  case round =>
    obtain ⟨i, hig, rfl, hC⟩ := hrel
    cases gk with
    | zero =>
      obtain rfl : i = 62 := by omega
      have hC2 := hC.congr (fun c => alnumC c || among o 0 c) (fun c hc => by rw [among_zero, Bool.or_false, among_alnum c hc])
      clear hC
      go_wp2
      clear hCT
      go_loopg [5] o.size (fun g v wr => ∃ i : Nat, i + g = o.size ∧ v = .int .i64 i ∧ CT w wr (fun c => alnumC c || among o i c))
      case atStart => exact ⟨0, by omega, rfl, hC2⟩
      case round =>
        clear hC2
        obtain ⟨i, hig, rfl, hC⟩ := hrel
        cases gk with
        | zero =>
          obtain rfl : i = o.size := by omega
          have hC := hC
          have hbel := hC.below
          have hsz := hC.size
          obtain ⟨cs, hb, hs, hc⟩ := hC.row
          obtain ⟨cs0, hb0, hs0, hc0⟩ := hC.old
          have hlt : ¬ ((o.size : Int) < (o.size : Int)) := by omega
          have hi : (Try.prog.info? 23).map (·.size) = some cs.size := by rw [hs]; exact z23.2
          have hone : cs.all (·.oneCell') = true := by
            rw [Array.all_eq_true]
            intro j hj
            have := hc j (by omega)
            rw [Array.getElem?_eq_getElem hj] at this
            injection this with this
            rw [this]
            rfl
          have HB : Hid (wr.heap[w.heap.size + 1]? = some (.cells cs 23 (0, 0))) := hb
          have HB0 : Hid (wr.heap[w.heap.size]? = some (.cells cs0 23 (0, 0))) := hb0
          have HC : Hid (∀ j, j < 256 → cs[j]? = some (.bool (alnumC (j : Int) || among o o.size (j : Int)))) := hc
          have HI : Hid ((Try.prog.info? 23).map (·.size) = some cs.size) := hi
          clear hb hb0 hc hc0 hi
          go_wp2_with (first | refine wpList_load_row rfl 23 _ rfl (w.heap.size + 1) rfl 23 cs (0, 0) _ HB.out Try.underlying23 rfl HI.out ?_ | refine wpList_store_row rfl 23 _ _ rfl w.heap.size cs rfl rfl 23 cs0 HB0.out HI.out (by omega) hone ?_)
          refine bodyPost_ret (results_cell_row rfl _ _ w.heap.size 23 cs (0, 0) _ rfl (setRow_at HB0.out cs) Try.underlying23 rfl HI.out) rfl ?_
          exact ⟨⟨cs, rfl, hs, HC.out⟩, setRow_below hbel cs⟩
        | succ g =>
          have hi : i < o.size := by omega
          have hi3 : (i : Int) < (o.size : Int) := by omega
          have HS : Hid (CT w (wr.setCell ⟨w.heap.size + 1, (o[i]'hi).toNat, none⟩ (.bool true)) (fun c => alnumC c || among o (i + 1) c)) := hC.step _ _ (fun c => by rw [among_succ, bt_eq o i hi, Bool.or_assoc])
          have hx256 : ((o[i]'hi).toNat : Int) < 256 := by have := UInt8.toNat_lt (o[i]'hi); omega
          have hcell := hC.row.cell (i := (o[i]'hi).toNat) (by omega)
          have hfr := hC.row.frozen (o[i]'hi).toNat
          generalize hT : (alnumC ((o[i]'hi).toNat : Int) || among o i ((o[i]'hi).toNat : Int)) = T at hcell
          clear hT hC
          go_wp2
          go_roundg g
          case measure => omega
          case rel => exact ⟨i + 1, by omega, by go_num, HS.out⟩
    | succ g =>
      have hi : i < 62 := by omega
      have hi2 : i < alnum62.size := hi
      have hi3 : (i : Int) < 62 := by omega
      have HC : Hid (CT w wr (among alnum62 i)) := hC
      have HS : Hid (CT w (wr.setCell ⟨w.heap.size + 1, (alnum62[i]'hi2).toNat, none⟩ (.bool true)) (among alnum62 (i + 1))) := hC.step _ _ (fun c => by rw [among_succ, bt_eq alnum62 i hi2])
      have hx256 : ((alnum62[i]'hi2).toNat : Int) < 256 := by have := UInt8.toNat_lt (alnum62[i]'hi2); omega
      have hcell := hC.row.cell (i := (alnum62[i]'hi2).toNat) (by omega)
      have hfr := hC.row.frozen (alnum62[i]'hi2).toNat
      generalize hT : among alnum62 i ((alnum62[i]'hi2).toNat : Int) = T at hcell
      clear hT hC
      unfold alnum62 at hcell hfr hx256
      go_wp2
      go_roundg g
      case measure => omega
      case rel => exact ⟨i + 1, by omega, by go_num, HS.out⟩
end Go.Proofs.Qxb6603967a
