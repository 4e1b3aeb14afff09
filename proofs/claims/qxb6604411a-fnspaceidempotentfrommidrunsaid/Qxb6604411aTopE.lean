import Derived.Test.Qxb6604411aBase
namespace Go.Proofs.Qxb6604411a
open Go.RowKit

set_option maxHeartbeats 400000 in
theorem zzSpace_any (tb off n c p0 : Nat) (t : Nat → Int) (w : World) (hn : n ≤ 1048576) (ht : ∀ k, 0 ≤ t k ∧ t k ≤ 255) (h0 : p0 ≤ n) (hb : tb < w.heap.size) (hT : ∀ k, k < n → w.cell? ⟨tb, off + k, none⟩ = some (.int .u8 (t k))) :
    Calls Try.prog 7 #[.slice (some ⟨tb, off, none⟩) n c, .int .i64 p0] w fun e w' => e = .returned (.int .i64 (skip t n p0 : Nat)) ∧ Below w.heap.size w w' := by
  have hS := box_row w (.slice (some ⟨tb, off, none⟩) n c) p0
  have hal : Below w.heap.size w (w.alloc (.cells #[.slice (some ⟨tb, off, none⟩) n c, .int .i64 p0] 29)) := (Below.refl _ _).alloc (Nat.le_refl _) _
  have HT : Hid (∀ k, k < n → (w.alloc (.cells #[.slice (some ⟨tb, off, none⟩) n c, .int .i64 p0] 29)).cell? ⟨tb, off + k, none⟩ = some (.int .u8 (t k))) := fun k hk => by
    rw [hal.cell (p := ⟨tb, off + k, none⟩) hb]; exact hT k hk
  have HB : Hid (∀ k, 0 ≤ t k ∧ t k ≤ 255) := ht
  clear hT ht
  go_enter Try.func7, Try.ntmps7
  go_wp2_with fail
  refine (space_any w.heap.size tb off n c p0 t _ hn HB.out h0 (by omega) HT.out (by exact hS)).mono ?_
  rintro e w' ⟨rfl, hs, hS'⟩
  have g1 : w'.cell? ⟨w.heap.size, 1, none⟩ = some (.int .i64 (skip t n p0 : Nat)) := hS'.cell (i := 1) (by omega)
  go_wp2
  go_ret
  exact ⟨rfl, hal.trans (hs.below (Nat.le_refl _))⟩

set_option maxHeartbeats 400000 in
theorem zzSpace_end (a : Option Addr) (n c : Nat) (i : Int) (w : World) (hi : (n : Int) ≤ i) :
    Calls Try.prog 7 #[.slice a n c, .int .i64 i] w fun e w' => e = .returned (.int .i64 i) ∧ Below w.heap.size w w' := by
  have hS := box_row w (.slice a n c) i
  go_enter Try.func7, Try.ntmps7
  go_wp2_with fail
  refine (space_end w.heap.size n c a i _ hi (by exact hS)).mono ?_
  rintro e w' ⟨rfl, hs, hS'⟩
  have g1 : w'.cell? ⟨w.heap.size, 1, none⟩ = some (.int .i64 i) := hS'.cell (i := 1) (by omega)
  go_wp2
  go_ret
  exact ⟨rfl, ((Below.refl _ _).alloc (Nat.le_refl _) _).trans (hs.below (Nat.le_refl _))⟩

set_option maxHeartbeats 400000 in
theorem zzBytesE_yes (a : Option Addr) (n c : Nat) (i : Int) (w : World) (h : n ≤ 1048576) :
    Calls Try.prog 5 #[.slice a n c, .int .i64 i] w fun e w' => e = .returned (.bool true) ∧ w' = w := by
  go_enter Try.func5, Try.ntmps5
  go_wp2
  go_ret
  exact ⟨rfl, rfl⟩

set_option maxHeartbeats 400000 in
theorem zzBytesE_no (a : Option Addr) (n c : Nat) (i : Int) (w : World) (h : 1048576 < n) :
    Calls Try.prog 5 #[.slice a n c, .int .i64 i] w fun e w' => e = .returned (.bool false) ∧ w' = w := by
  go_enter Try.func5, Try.ntmps5
  go_wp2
  go_ret
  exact ⟨rfl, rfl⟩

set_option maxHeartbeats 400000 in
theorem topE_big (a : Option Addr) (n c : Nat) (i : Int) (w : World) (h : 1048576 < n) :
    Calls Try.prog 3 #[.slice a n c, .int .i64 i] w fun e w' => e = .returned (.bool true) ∧ Below w.heap.size w w' := by
  go_enter Try.func3, Try.ntmps3
  go_wp2_with (go_at_call 5; refine (zzBytesE_no a n c i _ h).mono ?_; rintro e w' ⟨rfl, rfl⟩)
  go_ret
  exact ⟨rfl, Below.refl _ _⟩

set_option maxHeartbeats 400000 in
theorem topE_lo (a : Option Addr) (n c : Nat) (i : Int) (w : World) (h : n ≤ 1048576) (hi : i < 0) :
    Calls Try.prog 3 #[.slice a n c, .int .i64 i] w fun e w' => e = .returned (.bool true) ∧ Below w.heap.size w w' := by
  go_enter Try.func3, Try.ntmps3
  go_wp2_with (go_at_call 5; refine (zzBytesE_yes a n c i _ h).mono ?_; rintro e w' ⟨rfl, rfl⟩)
  go_ret
  exact ⟨rfl, Below.refl _ _⟩

set_option maxHeartbeats 400000 in
theorem topE_nil (i : Int) (w : World) (h0 : ¬ i < 0) :
    Calls Try.prog 3 #[.slice none 0 0, .int .i64 i] w fun e w' => e = .returned (.bool true) ∧ Below w.heap.size w w' := by
  have h7 := zzBytesE_yes none 0 0 i w (by omega)
  have HZ : Hid (∀ w' : World, Calls Try.prog 7 #[.slice none 0 0, .int .i64 i] w' fun e w'' => e = .returned (.int .i64 i) ∧ Below w'.heap.size w' w'') := fun w' => zzSpace_end none 0 0 i w' (by omega)
  have hge : (0 : Int) ≤ i := by omega
  go_enter Try.func3, Try.ntmps3
  go_wp2_with fail
  refine h7.mono ?_
  rintro _ w' ⟨rfl, hw⟩
  subst w'
  go_wp2_with fail
  refine (clone_nil _).mono ?_
  rintro _ w' ⟨rfl, hw⟩
  subst w'
  go_wp2_with fail
  refine (HZ.out _).mono ?_
  rintro _ w1 ⟨rfl, hb⟩
  go_wp2
  go_ret
  exact ⟨rfl, hb⟩

set_option maxHeartbeats 400000 in
theorem topE_hi (b off : Nat) (sp : Option _) (n c : Nat) (i : Int) (t : Nat → Int) (w : World) (hn : n ≤ 1048576) (h0 : ¬ i < 0) (hi : (n : Int) ≤ i) (hc : ∀ k, k < n → sp = none ∧ w.cell? ⟨b, off + k, none⟩ = some (.int .u8 (t k))) :
    Calls Try.prog 3 #[.slice (some ⟨b, off, sp⟩) n c, .int .i64 i] w fun e w' => e = .returned (.bool true) ∧ Below w.heap.size w w' := by
  have HC : Hid (∀ k, k < n → sp = none ∧ w.cell? ⟨b, off + k, none⟩ = some (.int .u8 (t k))) := hc
  clear hc
  have h7 := zzBytesE_yes (some ⟨b, off, sp⟩) n c i w hn
  have HZ : Hid (∀ w' : World, Calls Try.prog 7 #[.slice (some ⟨w.heap.size, 0, none⟩) n n, .int .i64 i] w' fun e w'' => e = .returned (.int .i64 i) ∧ Below w'.heap.size w' w'') := fun w' => zzSpace_end _ n n i w' hi
  go_enter Try.func3, Try.ntmps3
  go_wp2_with fail
  refine h7.mono ?_
  rintro _ w' ⟨rfl, hw⟩
  subst w'
  go_wp2_with fail
  refine (clone_any b off sp n c t _ hn HC.out).mono ?_
  rintro _ w1 ⟨rfl, hcl⟩
  go_wp2_with fail
  refine (HZ.out _).mono ?_
  rintro _ w2 ⟨rfl, hb⟩
  go_wp2
  go_ret
  exact ⟨rfl, hcl.below.trans (hb.mono hcl.below.size)⟩

set_option maxHeartbeats 1000000 in
theorem topE_some (b off : Nat) (sp : Option _) (n c i : Nat) (t : Nat → Int) (w : World) (hn : n ≤ 1048576) (hi : i < n) (ht : ∀ k, 0 ≤ t k ∧ t k ≤ 255) (hc : ∀ k, k < n → sp = none ∧ w.cell? ⟨b, off + k, none⟩ = some (.int .u8 (t k))) :
    Calls Try.prog 3 #[.slice (some ⟨b, off, sp⟩) n c, .int .i64 i] w fun e w' => e = .returned (.bool true) ∧ Below w.heap.size w w' := by
  have HC : Hid (∀ k, k < n → sp = none ∧ w.cell? ⟨b, off + k, none⟩ = some (.int .u8 (t k))) := hc
  have HT : Hid (∀ k, 0 ≤ t k ∧ t k ≤ 255) := ht
  have hr := skip_run t n (n - i) i (by omega)
  have hbd := skip_bd t n i (by omega)
  have HZ : Hid (∀ w' : World, w.heap.size < w'.heap.size → (∀ k, k < n → w'.cell? ⟨w.heap.size, 0 + k, none⟩ = some (.int .u8 (t k))) → Calls Try.prog 7 #[.slice (some ⟨w.heap.size, 0, none⟩) n n, .int .i64 i] w' fun e w'' => e = .returned (.int .i64 (skip t n i : Nat)) ∧ Below w'.heap.size w' w'') := fun w' h1 h2 => zzSpace_any w.heap.size 0 n n i t w' hn ht (by omega) h1 h2
  generalize skip t n i = r at HZ hr hbd
  obtain ⟨hr1, hr2⟩ := hr
  have HR1 : Hid (∀ j, i ≤ j → j < r → isSp (t j) = true) := hr1
  have HR2 : Hid (r < n → isSp (t r) = false) := hr2
  clear hc ht hr1 hr2
  obtain ⟨hb1, hb2⟩ := hbd
  have h7 := zzBytesE_yes (some ⟨b, off, sp⟩) n c i w hn
  have h1 : ¬ (i : Int) < 0 := by omega
  have h2 : ¬ (n : Int) ≤ (i : Int) := by omega
  have h3 : ¬ (r : Int) < (i : Int) := by omega
  have h4 : ¬ (n : Int) < (r : Int) := by omega
  have d2 : decide (n ≤ i) = false := decide_eq_false (by omega)
  have d3 : decide (r < i) = false := decide_eq_false (by omega)
  have d4 : decide (n < r) = false := decide_eq_false (by omega)
  go_enter Try.func3, Try.ntmps3
  go_wp2_with fail
  refine h7.mono ?_
  rintro _ w' ⟨rfl, hw⟩
  subst w'
  go_wp2_with fail
  refine (clone_any b off sp n c t _ hn HC.out).mono ?_
  rintro _ w1 ⟨rfl, hcl⟩
  have hrow : w1.rowIs w.heap.size 5 n (fun k => .int .u8 (t k)) := hcl.row.congr (fun k hk => by rw [if_pos hk])
  go_wp2_with fail
  refine (HZ.out w1 hrow.lt (fun k hk => by rw [Nat.zero_add]; exact hrow.cell hk)).mono ?_
  rintro _ w2 ⟨rfl, hb⟩
  have hrow2 : w2.rowIs w.heap.size 5 n (fun k => .int .u8 (t k)) := hrow.of_block (hb.block _ hrow.lt)
  have hbel : Below w.heap.size w w2 := hcl.below.trans (hb.mono hcl.below.size)
  clear hb hrow hcl h7 HZ
  go_wp2
  go_loop [6] (fun v => ∃ j : Nat, i ≤ j ∧ j ≤ r ∧ v = .int .i64 j) (fun v => r - (intOf v).toNat)
  case atStart => exact ⟨i, Nat.le_refl _, hb1, rfl⟩
  case round =>
    obtain ⟨j, hj0, hj, rfl⟩ := hrel
    by_cases hlt : j < r
    · have hz : (j : Int) < (r : Int) := by omega
      have hz2 : (j : Int) < (n : Int) := by omega
      have g3 := hrow2.cell (i := j) (by omega)
      have hsp := HR1.out j hj0 hlt
      go_wp2_with (go_at_call 8; refine (zzIsSpace_any _ _).mono ?_; rintro e w' ⟨rfl, hw⟩; subst w')
      go_round
      case rel => exact ⟨j + 1, by omega, by omega, by go_num⟩
      case measure => simp [intOf]; omega
    · have hz : ¬ (j : Int) < (r : Int) := by omega
      by_cases hrn : r < n
      · have hz2 : (r : Int) < (n : Int) := by omega
        have g3 := hrow2.cell (i := r) hrn
        have hsp := HR2.out hrn
        go_wp2_with (go_at_call 8; refine (zzIsSpace_any _ _).mono ?_; rintro e w' ⟨rfl, hw⟩; subst w')
        go_ret
        exact ⟨rfl, hbel⟩
      · have hz2 : ¬ (r : Int) < (n : Int) := by omega
        go_wp2
        go_ret
        exact ⟨rfl, hbel⟩
end Go.Proofs.Qxb6604411a
