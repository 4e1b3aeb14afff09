import Derived.Test.Qxb6603699aOut
namespace Go.Proofs.Qxb6603699a
open Go.RowKit

set_option maxHeartbeats 2000000 in
set_option maxRecDepth 100000 in
theorem blocksOut_any (g nb cap tb n : Nat) (St En VB Kn : Nat → Nat) (P : Nat → Nat → Int) (w : World) (hnb : nb ≤ 1048576) (hI : BI w g nb tb n St En VB Kn P) :
    Calls Try.prog 34 #[.slice (some ⟨g, 0, none⟩) nb cap] w fun e w' => e = .returned (.slice (some ⟨w.heap.size, 0, none⟩) nb nb) ∧ OL w w' nb tb n St En Kn P nb := by
  have q := q70
  have hmk := mk27 nb hnb
  go_enter Try.func34, Try.ntmps34
  go_wp2
  clear q hmk
  go_loopg [4] nb (fun gk v wr => ∃ c : Nat, c ≤ nb ∧ gk = nb - c ∧ v = .int .i64 (c : Int) ∧ OL w wr nb tb n St En Kn P c)
  case atStart => exact ⟨0, Nat.zero_le _, rfl, rfl, OL.start w nb tb n St En Kn P⟩
  case round =>
    obtain ⟨c, hc, hg, rfl, hO⟩ := hrel
    have A : Aside (gk = nb - c) := hg
    clear hg
    by_cases hlt : c < nb
    · have hz : (c : Int) < (nb : Int) := by omega
      have hgl : g < w.heap.size := World.block_lt_of_cell? _ _ (hI.c0 c hlt)
      have x3 : wr.cell? ⟨g, c * 4 + 3, none⟩ = some (.slice (some ⟨VB c, 0, none⟩) (Kn c) 64) := (hO.below.cell (p := ⟨g, c * 4 + 3, none⟩) hgl).trans (hI.c3 c hlt)
      have hkn := hI.kn c hlt
      have qn := q87n
      have hmk := mk33 (Kn c) (by omega)
      have hsz := hO.size
      go_wp2
      have hI0 := hO.inner
      clear qn hmk hO x3 hsz
      go_loopg [6] (Kn c) (fun gi v wi => ∃ k : Nat, k ≤ Kn c ∧ gi = Kn c - k ∧ v = .int .i64 (k : Int) ∧ IL w wi nb tb n St En Kn P c k)
      case atStart => exact ⟨0, Nat.zero_le _, rfl, rfl, hI0⟩
      case round =>
        obtain ⟨k, hk, hgi, rfl, hL⟩ := hrel
        have A2 : Aside (gk = Kn c - k) := hgi
        clear hgi hI0
        have x3 : wr.cell? ⟨g, c * 4 + 3, none⟩ = some (.slice (some ⟨VB c, 0, none⟩) (Kn c) 64) := (hL.below.cell (p := ⟨g, c * 4 + 3, none⟩) hgl).trans (hI.c3 c hlt)
        by_cases hlk : k < Kn c
        · have hzk : (k : Int) < (Kn c : Int) := by omega
          have hvl : VB c < w.heap.size := World.block_lt_of_cell? _ _ (hI.sp c hlt 0 (by omega))
          have y0 : wr.cell? ⟨VB c, k * 2, none⟩ = some (.int .i64 (P c (k * 2))) := (hL.below.cell (p := ⟨VB c, k * 2, none⟩) hvl).trans (hI.sp c hlt _ (by omega))
          have y1 : wr.cell? ⟨VB c, k * 2 + 1, none⟩ = some (.int .i64 (P c (k * 2 + 1))) := (hL.below.cell (p := ⟨VB c, k * 2 + 1, none⟩) hvl).trans (hI.sp c hlt _ (by omega))
          have z0 := hL.cur.cell (i := k * 2) (by omega)
          have z1 := hL.cur.cell (i := k * 2 + 1) (by omega)
          have f0 := hL.cur.frozen (k * 2)
          have f1 := hL.cur.frozen (k * 2 + 1)
          have hs := hL.step
          go_wp2
          go_region
          go_wp2
          go_roundg (Kn c - (k + 1))
          case measure => have := A2.out; omega
          case rel => exact ⟨k + 1, by omega, rfl, by go_num, hs⟩
        · obtain rfl : k = Kn c := by omega
          have x0 : wr.cell? ⟨g, c * 4, none⟩ = some (.int .i64 (St c : Int)) := (hL.below.cell (p := ⟨g, c * 4, none⟩) hgl).trans (hI.c0 c hlt)
          have x1 : wr.cell? ⟨g, c * 4 + 1, none⟩ = some (.int .i64 (En c : Int)) := (hL.below.cell (p := ⟨g, c * 4 + 1, none⟩) hgl).trans (hI.c1 c hlt)
          have x2 : wr.cell? ⟨g, c * 4 + 2, none⟩ = some (.slice (some ⟨tb, St c, none⟩) (En c - St c) (n - St c)) := (hL.below.cell (p := ⟨g, c * 4 + 2, none⟩) hgl).trans (hI.c2 c hlt)
          have z0 := hL.top.cell (i := c * 4) (by omega)
          have z1 := hL.top.cell (i := c * 4 + 1) (by omega)
          have z2 := hL.top.cell (i := c * 4 + 2) (by omega)
          have z3 := hL.top.cell (i := c * 4 + 3) (by omega)
          have f0 := hL.top.frozen (c * 4)
          have f1 := hL.top.frozen (c * 4 + 1)
          have f2 := hL.top.frozen (c * 4 + 2)
          have f3 := hL.top.frozen (c * 4 + 3)
          have hs := hL.close
          go_wp2
          go_region
          go_wp2
          go_roundg (nb - (c + 1))
          case measure => have := A.out; omega
          case rel => exact ⟨c + 1, by omega, rfl, by go_num, hs⟩
    · clear hI
      go_wp2
      go_ret
      obtain rfl : c = nb := by omega
      exact ⟨rfl, hO⟩

end Go.Proofs.Qxb6603699a
