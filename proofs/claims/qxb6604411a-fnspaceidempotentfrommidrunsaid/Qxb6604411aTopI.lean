import Derived.Test.Qxb6604411aTopE
namespace Go.Proofs.Qxb6604411a
open Go.RowKit

set_option maxHeartbeats 400000 in
theorem zzBytesI_yes (a : Option Addr) (n c : Nat) (i : Int) (w : World) (h : n ≤ 1048576) :
    Calls Try.prog 9 #[.slice a n c, .int .i64 i] w fun e w' => e = .returned (.bool true) ∧ w' = w := by
  go_enter Try.func9, Try.ntmps9
  go_wp2
  go_ret
  exact ⟨rfl, rfl⟩

set_option maxHeartbeats 400000 in
theorem zzBytesI_no (a : Option Addr) (n c : Nat) (i : Int) (w : World) (h : 1048576 < n) :
    Calls Try.prog 9 #[.slice a n c, .int .i64 i] w fun e w' => e = .returned (.bool false) ∧ w' = w := by
  go_enter Try.func9, Try.ntmps9
  go_wp2
  go_ret
  exact ⟨rfl, rfl⟩

set_option maxHeartbeats 400000 in
theorem topI_big (a : Option Addr) (n c : Nat) (i : Int) (w : World) (h : 1048576 < n) :
    Calls Try.prog 4 #[.slice a n c, .int .i64 i] w fun e w' => e = .returned (.bool true) ∧ Below w.heap.size w w' := by
  go_enter Try.func4, Try.ntmps4
  go_wp2_with (go_at_call 9; refine (zzBytesI_no a n c i _ h).mono ?_; rintro e w' ⟨rfl, rfl⟩)
  go_ret
  exact ⟨rfl, Below.refl _ _⟩

set_option maxHeartbeats 400000 in
theorem topI_lo (a : Option Addr) (n c : Nat) (i : Int) (w : World) (h : n ≤ 1048576) (hi : i < 0) :
    Calls Try.prog 4 #[.slice a n c, .int .i64 i] w fun e w' => e = .returned (.bool true) ∧ Below w.heap.size w w' := by
  go_enter Try.func4, Try.ntmps4
  go_wp2_with (go_at_call 9; refine (zzBytesI_yes a n c i _ h).mono ?_; rintro e w' ⟨rfl, rfl⟩)
  go_ret
  exact ⟨rfl, Below.refl _ _⟩

set_option maxHeartbeats 400000 in
theorem topI_hi (b off : Nat) (sp : Option _) (n c : Nat) (i : Int) (t : Nat → Int) (w : World) (hn : n ≤ 1048576) (h0 : ¬ i < 0) (hi : (n : Int) < i) (hc : ∀ k, k < n → sp = none ∧ w.cell? ⟨b, off + k, none⟩ = some (.int .u8 (t k))) :
    Calls Try.prog 4 #[.slice (some ⟨b, off, sp⟩) n c, .int .i64 i] w fun e w' => e = .returned (.bool true) ∧ Below w.heap.size w w' := by
  have HC : Hid (∀ k, k < n → sp = none ∧ w.cell? ⟨b, off + k, none⟩ = some (.int .u8 (t k))) := hc
  clear hc
  have h7 := zzBytesI_yes (some ⟨b, off, sp⟩) n c i w hn
  have HZ : Hid (∀ w' : World, Calls Try.prog 7 #[.slice (some ⟨w.heap.size, 0, none⟩) n n, .int .i64 i] w' fun e w'' => e = .returned (.int .i64 i) ∧ Below w'.heap.size w' w'') := fun w' => zzSpace_end _ n n i w' (by omega)
  go_enter Try.func4, Try.ntmps4
  go_wp2_with fail
  refine h7.mono ?_
  rintro _ w' ⟨rfl, hw⟩
  subst w'
  go_wp2_with fail
  refine (clone_any b off sp n c t _ hn HC.out).mono ?_
  rintro _ w1 ⟨rfl, hcl⟩
  go_wp2_with fail
  refine (HZ.out _).mono ?_
  rintro _ w2 ⟨rfl, hb⟩
  go_wp2
  go_ret
  exact ⟨rfl, hcl.below.trans (hb.mono hcl.below.size)⟩

set_option maxHeartbeats 400000 in
theorem topI_nilhi (i : Int) (w : World) (h0 : 0 < i) :
    Calls Try.prog 4 #[.slice none 0 0, .int .i64 i] w fun e w' => e = .returned (.bool true) ∧ Below w.heap.size w w' := by
  have h7 := zzBytesI_yes none 0 0 i w (by omega)
  have h1 : ¬ i < 0 := by omega
  have HZ : Hid (∀ w' : World, Calls Try.prog 7 #[.slice none 0 0, .int .i64 i] w' fun e w'' => e = .returned (.int .i64 i) ∧ Below w'.heap.size w' w'') := fun w' => zzSpace_end none 0 0 i w' (by omega)
  go_enter Try.func4, Try.ntmps4
  go_wp2_with fail
  refine h7.mono ?_
  rintro _ w' ⟨rfl, hw⟩
  subst w'
  go_wp2_with fail
  refine (clone_nil _).mono ?_
  rintro _ w' ⟨rfl, hw⟩
  subst w'
  go_wp2_with fail
  refine (HZ.out _).mono ?_
  rintro _ w1 ⟨rfl, hb⟩
  go_wp2
  go_ret
  exact ⟨rfl, hb⟩

set_option maxHeartbeats 400000 in
theorem topI_nil0 (w : World) :
    Calls Try.prog 4 #[.slice none 0 0, .int .i64 0] w fun e w' => e = .returned (.bool true) ∧ Below w.heap.size w w' := by
  have h7 := zzBytesI_yes none 0 0 0 w (by omega)
  have HZ : Hid (∀ w' : World, Calls Try.prog 7 #[.slice none 0 0, .int .i64 0] w' fun e w'' => e = .returned (.int .i64 0) ∧ Below w'.heap.size w' w'') := fun w' => zzSpace_end none 0 0 0 w' (by omega)
  go_enter Try.func4, Try.ntmps4
  go_wp2_with fail
  refine h7.mono ?_
  rintro _ w' ⟨rfl, hw⟩
  subst w'
  go_wp2_with fail
  refine (clone_nil _).mono ?_
  rintro _ w' ⟨rfl, hw⟩
  subst w'
  go_wp2_with fail
  refine (HZ.out _).mono ?_
  rintro _ w1 ⟨rfl, hb1⟩
  go_wp2_with fail
  refine (HZ.out _).mono ?_
  rintro _ w2 ⟨rfl, hb2⟩
  go_wp2_with fail
  refine (HZ.out _).mono ?_
  rintro _ w3 ⟨rfl, hb3⟩
  go_wp2_with fail
  refine (HZ.out _).mono ?_
  rintro _ w4 ⟨rfl, hb4⟩
  go_wp2
  go_ret
  have b2 := hb1.trans (hb2.mono hb1.size)
  have b3 := b2.trans (hb3.mono b2.size)
  exact ⟨rfl, b3.trans (hb4.mono b3.size)⟩

theorem topI_nil (i : Int) (w : World) (h0 : ¬ i < 0) :
    Calls Try.prog 4 #[.slice none 0 0, .int .i64 i] w fun e w' => e = .returned (.bool true) ∧ Below w.heap.size w w' := by
  by_cases h : i = 0
  · subst h; exact topI_nil0 w
  · exact topI_nilhi i w (by omega)

set_option maxHeartbeats 1000000 in
/-- The cursor at the very end. -/
theorem topI_at (b off : Nat) (sp : Option _) (n c : Nat) (t : Nat → Int) (w : World) (hn : n ≤ 1048576) (hc : ∀ k, k < n → sp = none ∧ w.cell? ⟨b, off + k, none⟩ = some (.int .u8 (t k))) :
    Calls Try.prog 4 #[.slice (some ⟨b, off, sp⟩) n c, .int .i64 n] w fun e w' => e = .returned (.bool true) ∧ Below w.heap.size w w' := by
  have HC : Hid (∀ k, k < n → sp = none ∧ w.cell? ⟨b, off + k, none⟩ = some (.int .u8 (t k))) := hc
  clear hc
  have h7 := zzBytesI_yes (some ⟨b, off, sp⟩) n c n w hn
  have HZ : Hid (∀ w' : World, Calls Try.prog 7 #[.slice (some ⟨w.heap.size, 0, none⟩) n n, .int .i64 n] w' fun e w'' => e = .returned (.int .i64 n) ∧ Below w'.heap.size w' w'') := fun w' => zzSpace_end _ n n n w' (by omega)
  have HZ0 : Hid (∀ (a : Option Addr) (c : Nat) (w' : World), Calls Try.prog 7 #[.slice a 0 c, .int .i64 0] w' fun e w'' => e = .returned (.int .i64 0) ∧ Below w'.heap.size w' w'') := fun a c w' => zzSpace_end a 0 c 0 w' (by omega)
  have h1 : ¬ (n : Int) < 0 := by omega
  go_enter Try.func4, Try.ntmps4
  go_wp2_with fail
  refine h7.mono ?_
  rintro _ w' ⟨rfl, hw⟩
  subst w'
  go_wp2_with fail
  refine (clone_any b off sp n c t _ hn HC.out).mono ?_
  rintro _ w0 ⟨rfl, hcl⟩
  go_wp2_with fail
  refine (HZ.out _).mono ?_
  rintro _ w1 ⟨rfl, hb1⟩
  go_wp2_with fail
  refine (HZ.out _).mono ?_
  rintro _ w2 ⟨rfl, hb2⟩
  go_wp2_with fail
  refine (HZ.out _).mono ?_
  rintro _ w3 ⟨rfl, hb3⟩
  go_wp2_with fail
  refine (HZ0.out _ _ _).mono ?_
  rintro _ w4 ⟨rfl, hb4⟩
  go_wp2
  go_ret
  have b1 := hcl.below.trans (hb1.mono hcl.below.size)
  have b2 := b1.trans (hb2.mono b1.size)
  have b3 := b2.trans (hb3.mono b2.size)
  exact ⟨rfl, b3.trans (hb4.mono b3.size)⟩

set_option maxHeartbeats 2000000 in
set_option maxRecDepth 100000 in
/-- The cursor ahead of the end. -/
theorem topI_mid (b off : Nat) (sp : Option _) (n c i : Nat) (t : Nat → Int) (w : World) (hn : n ≤ 1048576) (hi : i < n) (ht : ∀ k, 0 ≤ t k ∧ t k ≤ 255) (hc : ∀ k, k < n → sp = none ∧ w.cell? ⟨b, off + k, none⟩ = some (.int .u8 (t k))) :
    Calls Try.prog 4 #[.slice (some ⟨b, off, sp⟩) n c, .int .i64 i] w fun e w' => e = .returned (.bool true) ∧ Below w.heap.size w w' := by
  have HC : Hid (∀ k, k < n → sp = none ∧ w.cell? ⟨b, off + k, none⟩ = some (.int .u8 (t k))) := hc
  have hbd := skip_bd t n i (by omega)
  have hmid : ∀ m, i ≤ m → m ≤ skip t n i → skip t n m = skip t n i := fun m h1 h2 => skip_mid t n i m (by omega) h1 h2
  have hsh := skip_shift t n i (by omega)
  have hpr : isSp (t i) = true → i < skip t n i := fun h => by
    rw [skip_sp t n i hi h]
    have := skip_bd t n (i + 1) (by omega)
    omega
  have HZ : Hid (∀ (m : Nat) (w' : World), i ≤ m → m ≤ skip t n i → w.heap.size < w'.heap.size → (∀ k, k < n → w'.cell? ⟨w.heap.size, 0 + k, none⟩ = some (.int .u8 (t k))) → Calls Try.prog 7 #[.slice (some ⟨w.heap.size, 0, none⟩) n n, .int .i64 m] w' fun e w'' => e = .returned (.int .i64 (skip t n i : Nat)) ∧ Below w'.heap.size w' w'') := fun m w' m1 m2 h1 h2 => by
    have := zzSpace_any w.heap.size 0 n n m t w' hn ht (by omega) h1 h2
    rw [hmid m m1 m2] at this
    exact this
  have HS : Hid (∀ (c : Nat) (w' : World), w.heap.size < w'.heap.size → (∀ k, k < n → w'.cell? ⟨w.heap.size, 0 + k, none⟩ = some (.int .u8 (t k))) → Calls Try.prog 7 #[.slice (some ⟨w.heap.size, i, none⟩) (n - i) c, .int .i64 0] w' fun e w'' => e = .returned (.int .i64 (skip t n i - i : Nat)) ∧ Below w'.heap.size w' w'') := fun c w' h1 h2 => by
    have := zzSpace_any w.heap.size i (n - i) c 0 (fun k => t (i + k)) w' (by omega) (fun k => ht _) (by omega) h1 (fun k hk => by have := h2 (i + k) (by omega); rw [Nat.zero_add] at this; exact this)
    rw [hsh] at this
    exact this
  generalize skip t n i = r at HZ hbd hpr HS
  clear hmid hsh hc ht
  obtain ⟨hb1, hb2⟩ := hbd
  have HPR : Hid (isSp (t i) = true → i < r) := hpr
  clear hpr
  have h7 := zzBytesI_yes (some ⟨b, off, sp⟩) n c i w hn
  have h1 : ¬ (i : Int) < 0 := by omega
  have h2 : ¬ (n : Int) < (i : Int) := by omega
  have h3 : ¬ (r : Int) < (i : Int) := by omega
  have h4 : ¬ (n : Int) < (r : Int) := by omega
  have h5 : ((i : Int) == (n : Int)) = false := beq_eq_false_iff_ne.2 (by omega)
  go_enter Try.func4, Try.ntmps4
  go_wp2_with fail
  refine h7.mono ?_
  rintro _ w' ⟨rfl, hw⟩
  subst w'
  go_wp2_with fail
  refine (clone_any b off sp n c t _ hn HC.out).mono ?_
  rintro _ w0 ⟨rfl, hcl⟩
  have hbel0 := hcl.below
  have hrow0 : w0.rowIs w.heap.size 5 n (fun k => .int .u8 (t k)) := hcl.row.congr (fun k hk => by rw [if_pos hk])
  clear hcl h7
  go_wp2_with fail
  refine (HZ.out i w0 (Nat.le_refl _) hb1 hrow0.lt (fun k hk => by rw [Nat.zero_add]; exact hrow0.cell hk)).mono ?_
  rintro _ w1 ⟨rfl, hw1⟩
  have hrow1 := hrow0.of_block (hw1.block _ hrow0.lt)
  have hbel1 := hbel0.trans (hw1.mono hbel0.size)
  clear hrow0 hw1 hbel0
  have g3 := hrow1.cell (i := i) hi
  have hz2 : (i : Int) < (n : Int) := by omega
  rcases Bool.eq_false_or_eq_true (isSp (t i)) with hsp | hsp
  · have hir := HPR.out hsp
    have hir2 : (i : Int) < (r : Int) := by omega
    clear hir
    go_wp2_with fail
    refine (zzIsSpace_any _ _).mono ?_
    rintro _ w' ⟨rfl, hw⟩
    subst w'
    go_wp2_with fail
    refine (HZ.out r w1 hb1 (Nat.le_refl _) hrow1.lt (fun k hk => by rw [Nat.zero_add]; exact hrow1.cell hk)).mono ?_
    rintro _ w2 ⟨rfl, hw2⟩
    have hrow2 := hrow1.of_block (hw2.block _ hrow1.lt)
    have hbel2 := hbel1.trans (hw2.mono hbel1.size)
    clear hrow1 hw2 hbel1 g3
    go_wp2_with fail
    have hM := HZ.out (i + (r - i) / 2) w2 (by omega) (by omega) hrow2.lt (fun k hk => by rw [Nat.zero_add]; exact hrow2.cell hk)
    rw [show ((i + (r - i) / 2 : Nat) : Int) = (i : Int) + ((r : Int) - (i : Int)) / 2 by omega] at hM
    refine hM.mono ?_
    clear hM
    rintro _ w3 ⟨rfl, hw3⟩
    have hrow3 := hrow2.of_block (hw3.block _ hrow2.lt)
    have hbel3 := hbel2.trans (hw3.mono hbel2.size)
    clear hrow2 hw3 hbel2
    go_wp2_with fail
    have hS := HS.out (n - i) w3 hrow3.lt (fun k hk => by rw [Nat.zero_add]; exact hrow3.cell hk)
    rw [show ((r - i : Nat) : Int) = (r : Int) - (i : Int) by omega] at hS
    refine hS.mono ?_
    clear hS
    rintro _ w4 ⟨rfl, hw4⟩
    go_wp2
    go_ret
    exact ⟨rfl, hbel3.trans (hw4.mono hbel3.size)⟩
  · go_wp2_with fail
    refine (zzIsSpace_any _ _).mono ?_
    rintro _ w' ⟨rfl, hw⟩
    subst w'
    go_wp2_with fail
    refine (HZ.out r w1 hb1 (Nat.le_refl _) hrow1.lt (fun k hk => by rw [Nat.zero_add]; exact hrow1.cell hk)).mono ?_
    rintro _ w2 ⟨rfl, hw2⟩
    have hrow2 := hrow1.of_block (hw2.block _ hrow1.lt)
    have hbel2 := hbel1.trans (hw2.mono hbel1.size)
    clear hrow1 hw2 hbel1 g3
    go_wp2_with fail
    have hM := HZ.out (i + (r - i) / 2) w2 (by omega) (by omega) hrow2.lt (fun k hk => by rw [Nat.zero_add]; exact hrow2.cell hk)
    rw [show ((i + (r - i) / 2 : Nat) : Int) = (i : Int) + ((r : Int) - (i : Int)) / 2 by omega] at hM
    refine hM.mono ?_
    clear hM
    rintro _ w3 ⟨rfl, hw3⟩
    have hrow3 := hrow2.of_block (hw3.block _ hrow2.lt)
    have hbel3 := hbel2.trans (hw3.mono hbel2.size)
    clear hrow2 hw3 hbel2
    go_wp2_with fail
    have hS := HS.out (n - i) w3 hrow3.lt (fun k hk => by rw [Nat.zero_add]; exact hrow3.cell hk)
    rw [show ((r - i : Nat) : Int) = (r : Int) - (i : Int) by omega] at hS
    refine hS.mono ?_
    clear hS
    rintro _ w4 ⟨rfl, hw4⟩
    go_wp2
    go_ret
    exact ⟨rfl, hbel3.trans (hw4.mono hbel3.size)⟩

theorem topI_some (b off : Nat) (sp : Option _) (n c i : Nat) (t : Nat → Int) (w : World) (hn : n ≤ 1048576) (hi : i ≤ n) (ht : ∀ k, 0 ≤ t k ∧ t k ≤ 255) (hc : ∀ k, k < n → sp = none ∧ w.cell? ⟨b, off + k, none⟩ = some (.int .u8 (t k))) :
    Calls Try.prog 4 #[.slice (some ⟨b, off, sp⟩) n c, .int .i64 i] w fun e w' => e = .returned (.bool true) ∧ Below w.heap.size w w' := by
  by_cases h : i = n
  · subst h; exact topI_at b off sp i c t w hn hc
  · exact topI_mid b off sp n c i t w hn (by omega) ht hc
end Go.Proofs.Qxb6604411a
