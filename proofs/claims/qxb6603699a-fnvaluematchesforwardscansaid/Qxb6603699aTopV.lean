import Derived.Test.Qxb6603699aZzv
namespace Go.Proofs.Qxb6603699a
open Go.RowKit

set_option maxHeartbeats 400000 in
theorem topV_big (a : Option Addr) (n c : Nat) (i : Int) (w : World) (h : 1048576 < n) :
    Calls Try.prog 3 #[.slice a n c, .int .i64 i] w fun e w' => e = .returned (.bool true) ∧ Below w.heap.size w w' := by
  go_enter Try.func3, Try.ntmps3
  go_wp2_with (go_at_call 7; refine (zzBytes_no a n c i _ h).mono ?_; rintro e w' ⟨rfl, rfl⟩)
  go_ret
  exact ⟨rfl, Below.refl _ _⟩

set_option maxHeartbeats 400000 in
theorem topV_lo (a : Option Addr) (n c : Nat) (i : Int) (w : World) (h : n ≤ 1048576) (hi : i < 0) :
    Calls Try.prog 3 #[.slice a n c, .int .i64 i] w fun e w' => e = .returned (.bool true) ∧ Below w.heap.size w w' := by
  go_enter Try.func3, Try.ntmps3
  go_wp2_with (go_at_call 7; refine (zzBytes_yes a n c i _ h).mono ?_; rintro e w' ⟨rfl, rfl⟩)
  go_ret
  exact ⟨rfl, Below.refl _ _⟩

set_option maxHeartbeats 400000 in
theorem topV_hi (a : Option Addr) (n c : Nat) (i : Int) (w : World) (h : n ≤ 1048576) (hi : (n : Int) < i) :
    Calls Try.prog 3 #[.slice a n c, .int .i64 i] w fun e w' => e = .returned (.bool true) ∧ Below w.heap.size w w' := by
  have h0 : ¬ i < 0 := by omega
  go_enter Try.func3, Try.ntmps3
  go_wp2_with (go_at_call 7; refine (zzBytes_yes a n c i _ h).mono ?_; rintro e w' ⟨rfl, rfl⟩)
  go_ret
  exact ⟨rfl, Below.refl _ _⟩

set_option maxHeartbeats 400000 in
theorem topV_nil (w : World) :
    Calls Try.prog 3 #[.slice none 0 0, .int .i64 0] w fun e w' => e = .returned (.bool true) ∧ Below w.heap.size w w' := by
  have h7 : Hid (Calls Try.prog 7 #[.slice none 0 0, .int .i64 0] w fun e w' => e = .returned (.bool true) ∧ w' = w) := zzBytes_yes none 0 0 0 w (by omega)
  go_enter Try.func3, Try.ntmps3
  go_wp2_with (first | (go_at_call 7; refine h7.out.mono ?_; rintro e w' ⟨rfl, rfl⟩) | (go_at_call 8; refine (clone_nil _).mono ?_; rintro e w' ⟨rfl, rfl⟩) | (go_at_call 9; refine (zzValue_nil _).mono ?_; rintro e w1 ⟨rfl, hb⟩; unfold ret2) | (go_at_call 10; refine (model_end none 0 0 0 _ (by omega)).mono ?_; rintro e w2 ⟨rfl, rfl⟩; unfold ret2))
  go_ret
  exact ⟨rfl, hb⟩

set_option maxHeartbeats 400000 in
theorem topV_some (b off : Nat) (sp : Option _) (n c i : Nat) (t : Nat → Int) (w : World) (hn : n ≤ 1048576) (hi : i ≤ n) (ht : ∀ k, 0 ≤ t k ∧ t k ≤ 255) (hc : ∀ k, k < n → sp = none ∧ w.cell? ⟨b, off + k, none⟩ = some (.int .u8 (t k))) :
    Calls Try.prog 3 #[.slice (some ⟨b, off, sp⟩) n c, .int .i64 i] w fun e w' => e = .returned (.bool true) ∧ Below w.heap.size w w' := by
  have HC : Hid (∀ k, k < n → sp = none ∧ w.cell? ⟨b, off + k, none⟩ = some (.int .u8 (t k))) := hc
  have HT : Hid (∀ k, 0 ≤ t k ∧ t k ≤ 255) := ht
  clear hc ht
  have h1 : ¬ (i : Int) < 0 := by omega
  have h2 : ¬ (n : Int) < (i : Int) := by omega
  go_enter Try.func3, Try.ntmps3
  go_wp2_with (first | (go_at_call 7; refine (zzBytes_yes _ n c i _ hn).mono ?_; rintro e w' ⟨rfl, hw⟩; subst w') | (go_at_call 8; refine (clone_any b off sp n c t _ hn HC.out).mono ?_; rintro e w1 ⟨rfl, hcl⟩))
  have hrow : w1.rowIs w.heap.size 5 n (fun k => .int .u8 (t k)) := hcl.row.congr (fun k hk => by rw [if_pos hk])
  go_wp2_with (go_at_call 9; refine (zzValue_any w.heap.size n i t w1 hn HT.out hi hrow).mono ?_; rintro e w2 ⟨rfl, hb⟩; unfold ret2)
  have hrow2 : w2.rowIs w.heap.size 5 n (fun k => .int .u8 (t k)) := hrow.of_block (hb.block _ hrow.lt)
  go_wp2_with (go_at_call 10; refine (model_any w.heap.size n n i t w2 hn hrow2).mono ?_; rintro e w3 ⟨rfl, rfl⟩; unfold ret2)
  go_ret
  exact ⟨rfl, hcl.below.trans (hb.mono hcl.below.size)⟩

end Go.Proofs.Qxb6603699a
