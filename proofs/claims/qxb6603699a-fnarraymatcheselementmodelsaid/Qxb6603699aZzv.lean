import Derived.Test.Qxb6603699aVal
import Derived.Test.Qxb6603699aMod
namespace Go.Proofs.Qxb6603699a
open Go.RowKit

theorem box_row (w : World) (v : Value) (i : Int) : (w.alloc (.cells #[v, .int .i64 i] 66)).rowIs w.heap.size 66 2 (scv v i) :=
  World.rowIs_alloc w #[v, .int .i64 i] 66 (scv v i) (fun k hk => by
    match k, hk with
    | 0, _ => rfl
    | 1, _ => rfl)

set_option maxHeartbeats 400000 in
theorem zzValue_any (tb n i : Nat) (t : Nat → Int) (w : World) (hn : n ≤ 1048576) (ht : ∀ k, 0 ≤ t k ∧ t k ≤ 255) (hi : i ≤ n) (hT : w.rowIs tb 5 n (fun k => .int .u8 (t k))) :
    Calls Try.prog 9 #[.slice (some ⟨tb, 0, none⟩) n n, .int .i64 i] w fun e w' => e = .returned (ret2 (valF t n i)) ∧ Below w.heap.size w w' := by
  have hS : Sc (w.alloc (.cells #[.slice (some ⟨tb, 0, none⟩) n n, .int .i64 i] 66)) w.heap.size tb n t i := ⟨box_row w _ _, hT.alloc _⟩
  go_enter Try.func9, Try.ntmps9
  go_wp2_with (go_at_call 29; refine (value_any w.heap.size tb n i t _ hn ht hi (by exact hS)).mono ?_; rintro e w' ⟨rfl, hs, hS'⟩)
  have g1 := hS'.c1
  go_quiet (fail)
  go_wp2
  go_ret2
  exact ⟨rfl, (((Below.refl _ _).alloc (Nat.le_refl _) _).trans (hs.below (Nat.le_refl _))).trans ⟨rfl, rfl, rfl, Nat.le_refl _, fun _ _ => rfl⟩⟩

set_option maxHeartbeats 400000 in
theorem zzValue_nil (w : World) :
    Calls Try.prog 9 #[.slice none 0 0, .int .i64 0] w fun e w' => e = .returned (ret2 (false, 0)) ∧ Below w.heap.size w w' := by
  have hS := box_row w (.slice none 0 0) 0
  go_enter Try.func9, Try.ntmps9
  go_wp2_with (go_at_call 29; refine (value_end w.heap.size 0 none _ (by exact hS)).mono ?_; rintro e w' ⟨rfl, hs, hS'⟩)
  have g1 : w'.cell? ⟨w.heap.size, 1, none⟩ = some (.int .i64 0) := hS'.cell (i := 1) (by omega)
  go_quiet (fail)
  go_wp2
  go_ret2
  exact ⟨rfl, (((Below.refl _ _).alloc (Nat.le_refl _) _).trans (hs.below (Nat.le_refl _))).trans ⟨rfl, rfl, rfl, Nat.le_refl _, fun _ _ => rfl⟩⟩

end Go.Proofs.Qxb6603699a
