import Derived.Test.Qxb6603699aArrDefs
namespace Go.Proofs.Qxb6603699a
open Go.RowKit

theorem results32 {tmps : Array Value} {chb : Nat} {x v y : Value} {W : World} (h4 : tmps.getD 4 undef = x) (h5 : tmps.getD 5 undef = .pointer (some ⟨chb, 0, none⟩)) (h6 : tmps.getD 6 undef = y) (hr : W.cell? ⟨chb, 0, none⟩ = some v) :
    (results Try.f32 tmps).run Try.prog W = .ok (.tuple #[x, v, y]) W := by
  rw [Array.getD_eq_getD_getElem?] at h4 h5 h6
  simp [results, Try.results32, go_sem, h4, h5, h6, hr]

set_option maxHeartbeats 400000 in
theorem array_no (sb tb n i : Nat) (t : Nat → Int) (w : World) (hS : Sc w sb tb n t i) (h : n ≤ i ∨ t i ≠ 91) :
    Calls Try.prog 32 #[.pointer (some ⟨sb, 0, none⟩), .slice none 0 0] w (Apost w sb tb n t ([], false, i)) := by
  have htake : ∀ W : World, Sc W sb tb n t i → Calls Try.prog 42 #[.pointer (some ⟨sb, 0, none⟩), .int .u8 91] W fun e w' => e = .returned (.bool false) ∧ SameBut sb W w' ∧ w'.rowIs sb 66 2 (scv (.slice (some ⟨tb, 0, none⟩) n n) i) := fun W hW => by
    by_cases hlt : i < n
    · exact take_no sb tb n i 91 t W hlt (by omega) hW.at_ hW.text
    · exact take_end sb n i _ 91 W (by omega) hW.at_
  have HT : Hid (∀ W : World, Sc W sb tb n t i → Calls Try.prog 42 #[.pointer (some ⟨sb, 0, none⟩), .int .u8 91] W fun e w' => e = .returned (.bool false) ∧ SameBut sb W w' ∧ w'.rowIs sb 66 2 (scv (.slice (some ⟨tb, 0, none⟩) n n) i)) := htake
  have hSa : ∀ o, Sc (w.alloc o) sb tb n t i := fun o => ⟨hS.at_.alloc o, hS.text.alloc o⟩
  have hsb := hS.at_.lt
  clear htake
  go_enter Try.func32, Try.ntmps32
  go_wp2_with fail
  refine (HT.out _ (hSa _)).mono ?_
  rintro _ w1 ⟨rfl, hs1, hr1⟩
  have hS1 := (hSa _).to hs1 hr1
  have x0 : w1.cell? ⟨w.heap.size, 0, none⟩ = some (.slice none 0 0) := by
    rw [World.cell?_of_block (hs1.block w.heap.size (by omega))]
    simp
  have x1 : w1.frozen? ⟨w.heap.size, 0, none⟩ = false := by
    rw [World.frozen?_of_block (hs1.block w.heap.size (by omega))]
    simp
  go_wp2
  refine bodyPost_ret (results32 rfl rfl rfl (World.cell?_setCell_same' _ _ _ (by rw [x0]; rfl))) rfl ?_
  exact ⟨_, _, _, _, _, _, rfl, AE.none _ ((((Fr.refl (fun k => k = sb) w).alloc _).same hs1 (Or.inl rfl)).set (b := ⟨w.heap.size, 0, none⟩) (Or.inr (Nat.le_refl _)) _) ⟨hS1.at_.setOther (by show sb ≠ w.heap.size; omega) _, hS1.text.setOther (by show tb ≠ w.heap.size; have := hS.text.lt; omega) _⟩⟩

set_option maxHeartbeats 400000 in
theorem array_empty (sb tb n i q : Nat) (t : Nat → Int) (w : World) (hn : n ≤ 1048576) (hS : Sc w sb tb n t i) (hi : i < n) (h91 : t i = 91) (hsk : skip t n (i + 1) = q) (hqn : q < n) (h93 : t q = 93) :
    Calls Try.prog 32 #[.pointer (some ⟨sb, 0, none⟩), .slice none 0 0] w (Apost w sb tb n t ([], true, q + 1)) := by
  have hSa : ∀ o, Sc (w.alloc o) sb tb n t i := fun o => ⟨hS.at_.alloc o, hS.text.alloc o⟩
  have hsb := hS.at_.lt
  have H : Hid (t i = 91 ∧ skip t n (i + 1) = q ∧ t q = 93) := ⟨h91, hsk, h93⟩
  clear h91 hsk h93
  go_enter Try.func32, Try.ntmps32
  go_wp2_with fail
  refine (take_yes sb tb n i 91 t _ hn hi H.out.1 (hSa _).at_ (hSa _).text).mono ?_
  rintro _ w1 ⟨rfl, hs1, hr1⟩
  have hS1 := (hSa _).to hs1 hr1
  go_wp2_with fail
  refine (space_any sb tb n (i + 1) t _ hn (by omega) hS1).mono ?_
  rw [H.out.2.1]
  rintro _ w2 ⟨rfl, hs2, hS2⟩
  go_wp2_with fail
  refine (take_yes sb tb n q 93 t _ hn hqn H.out.2.2 hS2.at_ hS2.text).mono ?_
  rintro _ w3 ⟨rfl, hs3, hr3⟩
  have hS3 := hS2.to hs3 hr3
  have hs := (hs1.trans hs2).trans hs3
  clear hs1 hs2 hs3 hr1 hr3 hS1 hS2
  have x0 : w3.cell? ⟨w.heap.size, 0, none⟩ = some (.slice none 0 0) := by
    rw [World.cell?_of_block (hs.block w.heap.size (by omega))]
    simp
  have x1 : w3.frozen? ⟨w.heap.size, 0, none⟩ = false := by
    rw [World.frozen?_of_block (hs.block w.heap.size (by omega))]
    simp
  go_wp2
  refine bodyPost_ret (results32 rfl rfl rfl (World.cell?_setCell_same' _ _ _ (by rw [x0]; rfl))) rfl ?_
  exact ⟨_, _, _, _, _, _, rfl, AE.none _ ((((Fr.refl (fun k => k = sb) w).alloc _).same hs (Or.inl rfl)).set (b := ⟨w.heap.size, 0, none⟩) (Or.inr (Nat.le_refl _)) _) ⟨hS3.at_.setOther (by show sb ≠ w.heap.size; omega) _, hS3.text.setOther (by show tb ≠ w.heap.size; have := hS.text.lt; omega) _⟩⟩

end Go.Proofs.Qxb6603699a
