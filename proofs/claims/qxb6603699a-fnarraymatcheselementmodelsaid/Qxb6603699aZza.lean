import Derived.Test.Qxb6603699aOut2
import Derived.Test.Qxb6603699aZzv
namespace Go.Proofs.Qxb6603699a
open Go.RowKit

/-- The blocks handed out, as cells. -/
structure ZO (W : World) (N nb tb n : Nat) (St En Kn : Nat → Nat) (P : Nat → Nat → Int) : Prop where
  top : ∀ j, j < nb * 4 → W.cell? ⟨N, j, none⟩ = some (oc N tb n St En Kn j)
  done : ∀ d, d < nb → ∀ j, j < Kn d * 2 → W.cell? ⟨N + 1 + d, j, none⟩ = some (.int .i64 (P d j))

theorem OL.zo {w wr : World} {nb tb n : Nat} {St En Kn : Nat → Nat} {P : Nat → Nat → Int} (h : OL w wr nb tb n St En Kn P nb) : ZO wr w.heap.size nb tb n St En Kn P :=
  ⟨fun j hj => by rw [h.top.cell hj, if_pos hj], fun d hd j hj => (h.done d hd).cell hj⟩

/-- what a slice that owns its row looks like -/
theorem own_view {w : World} {base : Nat} {e : TypeId} {size : Nat} {v : Value} {n : Nat} {xs : List Value} (h : w.ownsRow base e size v n xs) :
    ∃ a c g, v = .slice a n c ∧ (0 < n → a = some ⟨g, 0, none⟩ ∧ g < w.heap.size) ∧ ∀ j, j < n * size → w.cell? ⟨g, j, none⟩ = xs[j]? := by
  rcases h.2 with ⟨rfl, rfl⟩ | ⟨g, cap, cur, rfl, hb, hh, h1⟩
  · exact ⟨none, 0, 0, rfl, fun h => by omega, fun j hj => by omega⟩
  · exact ⟨_, cap, g, rfl, fun _ => ⟨rfl, (h.lt g rfl).2⟩, fun j hj => h.cellAt j hj⟩

theorem own_base {w : World} {base base' : Nat} {e : TypeId} {size : Nat} {v : Value} {n : Nat} {xs : List Value} (h : w.ownsRow base e size v n xs) (hb : base' ≤ base) : w.ownsRow base' e size v n xs := by
  refine ⟨h.1, ?_⟩
  rcases h.2 with h2 | ⟨g, cap, cur, rfl, h3, h4⟩
  · exact Or.inl h2
  · exact Or.inr ⟨g, cap, cur, rfl, by omega, h4⟩

/-- What ZZB1Array hands back: r: 'arr'. -/
def Zpost (w : World) (tb n : Nat) (r : List (Nat × Nat) × Bool × Nat) (e : Ending) (w' : World) : Prop :=
  ∃ (oa : Option Addr) (N nb : Nat) (cv : Value) (St En : Nat → Nat), e = .returned (.tuple #[.slice oa nb nb, cv, .bool r.2.1, .int .i64 ((r.2.2 : Nat) : Int)]) ∧ Below w.heap.size w w' ∧ w'.ownsRow w.heap.size 3 1 cv r.1.length (nums r.1.length) ∧
    nb = (r.1.length + 63) / 64 ∧ (0 < nb → oa = some ⟨N, 0, none⟩) ∧ (∀ c, c < nb → St c = fstAt r.1 (64 * c)) ∧ (∀ c, c < nb → En c = if c + 1 < nb then fstAt r.1 (64 * (c + 1)) else sndAt r.1 (r.1.length - 1)) ∧ (∀ c, c < nb → St c < En c ∧ En c ≤ n) ∧
    ZO w' N nb tb n St En (fun c => (part r.1 c).length) (fun c j => spv (St c) (part r.1 c) j)

theorem ae_bi {w0 w : World} {sb tb n : Nat} {t : Nat → Int} {r : List (Nat × Nat) × Bool × Nat} {g cap : Nat} {cv : Value} {nb : Nat} {St En VB : Nat → Nat} (h : AE w0 w sb tb n t r (.slice (some ⟨g, 0, none⟩) nb cap) cv nb St En VB) :
    BI w g nb tb n St En VB (fun c => (part r.1 c).length) (fun c j => spv (St c) (part r.1 c) j) := by
  have hc : ∀ c i, c < nb → i < 4 → w.cell? ⟨g, c * 4 + i, none⟩ = (bcell tb n St En VB (fun c => (part r.1 c).length) c)[i]? := fun c i hc hi => by
    rw [h.bl.cellAt (c * 4 + i) (by omega)]
    exact bcs_at tb n St En VB _ nb c i hc hi
  refine ⟨fun c h1 => by have := hc c 0 h1 (by omega); simpa [bcell] using this, fun c h1 => by have := hc c 1 h1 (by omega); simpa [bcell] using this, fun c h1 => by have := hc c 2 h1 (by omega); simpa [bcell] using this, fun c h1 => by have := hc c 3 h1 (by omega); simpa [bcell] using this, fun c h1 j hj => ?_, fun c _ => by simp [part]; omega⟩
  have hl : (part r.1 c).length ≤ 64 := by simp [part]; omega
  rw [(h.vm c h1).cell (i := j) (by omega)]
  unfold spc
  rw [if_pos (by omega)]

set_option maxHeartbeats 1000000 in
theorem zzArray_any (tb n i : Nat) (t : Nat → Int) (w : World) (hn : n ≤ 1048576) (ht : ∀ k, 0 ≤ t k ∧ t k ≤ 255) (hT : w.rowIs tb 5 n (fun k => .int .u8 (t k))) (hLn : (arr t n i).1.length ≤ 1048576) :
    Calls Try.prog 12 #[.slice (some ⟨tb, 0, none⟩) n n, .int .i64 i, .slice none 0 0] w (Zpost w tb n (arr t n i)) := by
  have hS : Sc (w.alloc (.cells #[.slice (some ⟨tb, 0, none⟩) n n, .int .i64 i] 66)) w.heap.size tb n t i := ⟨box_row w _ _, hT.alloc _⟩
  obtain ⟨r, hr⟩ : ∃ r, arr t n i = r := ⟨_, rfl⟩
  have hC := array_any w.heap.size tb n i t _ hn ht hS
  rw [hr] at hC hLn ⊢
  have HC : Hid (Calls Try.prog 32 #[.pointer (some ⟨w.heap.size, 0, none⟩), .slice none 0 0] (w.alloc (.cells #[.slice (some ⟨tb, 0, none⟩) n n, .int .i64 i] 66)) (Apost (w.alloc (.cells #[.slice (some ⟨tb, 0, none⟩) n n, .int .i64 i] 66)) w.heap.size tb n t r)) := hC
  clear hr hC hS
  go_enter Try.func12, Try.ntmps12
  go_wp2_with (go_at_call 33; refine (blocksIn_nil _).mono ?_; rintro e w' ⟨rfl, hw⟩; subst w')
  refine HC.out.mono ?_
  rintro _ w1 ⟨bv, cv, nb, St, En, VB, rfl, hE⟩
  clear HC
  have hb1 : Below w.heap.size w w1 := ((Below.refl _ _).alloc (Nat.le_refl _) _).trans (hE.fr.below (fun k hk => by rw [hk]; exact Nat.le_refl _) (by rw [World.size_alloc]; omega))
  have g1 := hE.sc.c1
  have hnb : nb ≤ 1048576 := by have := hE.cnt; omega
  go_wp2_with fail
  rcases hE.bl.2 with ⟨rfl, hnb0⟩ | ⟨g, cap, cur, rfl, _⟩
  · subst hnb0
    go_region_held3 (fun w' => w'.cell? ⟨w.heap.size, 1, none⟩ = some (.int .i64 r.2.2)) (go_keep) ((go_at_call 34; refine (blocksOut_nil _).mono ?_; rintro e w' ⟨rfl, rfl⟩))
    all_goals go_wp2
    all_goals refine bodyPost_ret (results_tmp4 rfl _ _ _) rfl ?_
    all_goals exact ⟨none, 0, 0, cv, St, En, rfl, hb1.drew, own_of_block (own_base hE.own (by rw [World.size_alloc]; omega)) (fun _ _ => rfl), hE.cnt, fun h => by omega, fun c h => by omega, fun c h => by omega, fun c h => by omega, ⟨fun j hj => by omega, fun d hd => by omega⟩⟩
  · have hI : BI w1.drew g nb tb n St En VB (fun c => (part r.1 c).length) (fun c j => spv (St c) (part r.1 c) j) := by
      have hI0 := ae_bi hE
      exact ⟨hI0.c0, hI0.c1, hI0.c2, hI0.c3, hI0.sp, hI0.kn⟩
    have HI : Hid (BI w1.drew g nb tb n St En VB (fun c => (part r.1 c).length) (fun c j => spv (St c) (part r.1 c) j)) := hI
    have hlt : w.heap.size < w1.heap.size := World.block_lt_of_cell? _ _ g1
    clear hI
    go_region_held3 (fun w' => w'.cell? ⟨w.heap.size, 1, none⟩ = some (.int .i64 r.2.2)) (go_keep) ((go_at_call 34; refine (blocksOut_any g nb cap tb n St En VB _ _ w1.drew hnb HI.out).mono ?_; rintro _ w4 ⟨rfl, hO⟩; have x2 : w4.cell? ⟨w.heap.size, 1, none⟩ = some (.int .i64 r.2.2) := (hO.below.cell (p := ⟨w.heap.size, 1, none⟩) hlt).trans g1))
    go_wp2
    refine bodyPost_ret (results_tmp4 rfl _ _ _) rfl ?_
    refine ⟨some ⟨w1.heap.size, 0, none⟩, w1.heap.size, nb, cv, St, En, rfl, hb1.drew.trans (hO.below.mono hb1.size), ?_, hE.cnt, fun _ => rfl, hE.st, hE.en, hE.ne, hO.zo⟩
    exact own_of_block (own_base hE.own (by rw [World.size_alloc]; omega)) (fun k hk => hO.below.block k (hE.own.lt k hk).2)

set_option maxHeartbeats 400000 in
theorem array_nil (sb i : Nat) (w : World) (hS : w.rowIs sb 66 2 (scv (.slice none 0 0) i)) :
    Calls Try.prog 32 #[.pointer (some ⟨sb, 0, none⟩), .slice none 0 0] w fun e w' => e = .returned (.tuple #[.slice none 0 0, .slice none 0 0, .bool false]) ∧ Fr (fun k => k = sb) w w' ∧ w'.rowIs sb 66 2 (scv (.slice none 0 0) i) := by
  have hsb := hS.lt
  go_enter Try.func32, Try.ntmps32
  go_wp2_with fail
  refine (take_end sb 0 i none 91 _ (Nat.zero_le _) (hS.alloc _)).mono ?_
  rintro _ w1 ⟨rfl, hs1, hr1⟩
  have x0 : w1.cell? ⟨w.heap.size, 0, none⟩ = some (.slice none 0 0) := by
    rw [World.cell?_of_block (hs1.block w.heap.size (by omega))]
    simp
  have x1 : w1.frozen? ⟨w.heap.size, 0, none⟩ = false := by
    rw [World.frozen?_of_block (hs1.block w.heap.size (by omega))]
    simp
  go_wp2
  refine bodyPost_ret (results32 rfl rfl rfl (World.cell?_setCell_same' _ _ _ (by rw [x0]; rfl))) rfl ?_
  exact ⟨rfl, (((Fr.refl (fun k => k = sb) w).alloc _).same hs1 (Or.inl rfl)).set (b := ⟨w.heap.size, 0, none⟩) (Or.inr (Nat.le_refl _)) _, hr1.setOther (by show sb ≠ w.heap.size; omega) _⟩

set_option maxHeartbeats 1000000 in
theorem zzArray_nil (i : Nat) (w : World) :
    Calls Try.prog 12 #[.slice none 0 0, .int .i64 i, .slice none 0 0] w fun e w' => e = .returned (.tuple #[.slice none 0 0, .slice none 0 0, .bool false, .int .i64 (i : Int)]) ∧ Below w.heap.size w w' := by
  have hS := box_row w (.slice none 0 0) i
  go_enter Try.func12, Try.ntmps12
  go_wp2_with (go_at_call 33; refine (blocksIn_nil _).mono ?_; rintro e w' ⟨rfl, hw⟩; subst w')
  refine (array_nil w.heap.size i _ hS).mono ?_
  rintro _ w1 ⟨rfl, hfr, hr1⟩
  have g1 : w1.cell? ⟨w.heap.size, 1, none⟩ = some (.int .i64 i) := hr1.cell (i := 1) (by omega)
  have hb1 : Below w.heap.size w w1 := ((Below.refl _ _).alloc (Nat.le_refl _) _).trans (hfr.below (fun k hk => by rw [hk]; exact Nat.le_refl _) (by rw [World.size_alloc]; omega))
  go_wp2_with fail
  go_region_held3 (fun w' => w'.cell? ⟨w.heap.size, 1, none⟩ = some (.int .i64 i)) (go_keep) ((go_at_call 34; refine (blocksOut_nil _).mono ?_; rintro e w' ⟨rfl, rfl⟩))
  all_goals go_wp2
  all_goals refine bodyPost_ret (results_tmp4 rfl _ _ _) rfl ?_
  all_goals exact ⟨rfl, hb1.drew⟩

end Go.Proofs.Qxb6603699a
