import Derived.Test.Qxb6603699aZza
import Derived.Test.Qxb6603699aPlainB
namespace Go.Proofs.Qxb6603699a
open Go.RowKit

/-- What the law reads behind its two calls: m elements (S, E: where each begins and ends), nb blocks. -/
structure TF (w : World) (tb n : Nat) (t : Nat → Int) (m nb gc gs ge N : Nat) (S E EE kn : Nat → Nat) : Prop where
  text : w.rowIs tb 5 n (fun k => .int .u8 (t k))
  ch : ∀ k, k < m → w.cell? ⟨gc, k, none⟩ = some (.int .i64 (k : Int))
  st : ∀ k, k < m → w.cell? ⟨gs, k, none⟩ = some (.int .i64 (S k : Int))
  en : ∀ k, k < m → w.cell? ⟨ge, k, none⟩ = some (.int .i64 (E k : Int))
  b0 : ∀ c, c < nb → w.cell? ⟨N, c * 4, none⟩ = some (.int .i64 (S (c * 64) : Int))
  b1 : ∀ c, c < nb → w.cell? ⟨N, c * 4 + 1, none⟩ = some (.int .i64 (EE c : Int))
  b2 : ∀ c, c < nb → w.cell? ⟨N, c * 4 + 2, none⟩ = some (.slice (some ⟨tb, S (c * 64), none⟩) (EE c - S (c * 64)) (n - S (c * 64)))
  b3 : ∀ c, c < nb → w.cell? ⟨N, c * 4 + 3, none⟩ = some (.slice (some ⟨N + 1 + c, 0, none⟩) (kn c) (kn c))
  s0 : ∀ c, c < nb → ∀ k, k < kn c → w.cell? ⟨N + 1 + c, k * 2, none⟩ = some (.int .i64 ((S (c * 64 + k) : Int) - (S (c * 64) : Int)))
  s1 : ∀ c, c < nb → ∀ k, k < kn c → w.cell? ⟨N + 1 + c, k * 2 + 1, none⟩ = some (.int .i64 ((E (c * 64 + k) : Int) - (S (c * 64) : Int)))
  cnt : nb = (m + 63) / 64
  mn : m ≤ n
  kc : ∀ c, c < nb → kn c = if c * 64 + 64 ≤ m then 64 else m - c * 64
  ec : ∀ c, c < nb → EE c = if c + 1 < nb then S (c * 64 + 64) else E (m - 1)
  le : ∀ c, c < nb → S (c * 64) < EE c ∧ EE c ≤ n
  sb : ∀ k, k < m → S k ≤ n ∧ E k ≤ n

theorem TF.below {w w' : World} {tb n : Nat} {t : Nat → Int} {m nb gc gs ge N : Nat} {S E EE kn : Nat → Nat} (h : TF w tb n t m nb gc gs ge N S E EE kn) (b : Below w.heap.size w w') : TF w' tb n t m nb gc gs ge N S E EE kn := by
  have c : ∀ {a : Addr} {v : Value}, w.cell? a = some v → w'.cell? a = some v := fun hc => (b.cell (World.block_lt_of_cell? _ _ hc)).trans hc
  exact ⟨h.text.of_block (b.block _ h.text.lt), fun k hk => c (h.ch k hk), fun k hk => c (h.st k hk), fun k hk => c (h.en k hk), fun k hk => c (h.b0 k hk), fun k hk => c (h.b1 k hk), fun k hk => c (h.b2 k hk), fun k hk => c (h.b3 k hk),
    fun k hk j hj => c (h.s0 k hk j hj), fun k hk j hj => c (h.s1 k hk j hj), h.cnt, h.mn, h.kc, h.ec, h.le, h.sb⟩

theorem part_length (L : List (Nat × Nat)) (c : Nat) (h : c * 64 < L.length) : (part L c).length = if c * 64 + 64 ≤ L.length then 64 else L.length - c * 64 := by
  unfold part
  rw [List.length_take, List.length_drop]
  split <;> omega

theorem part_get (L : List (Nat × Nat)) (c k : Nat) (h : k < (part L c).length) : (part L c).getD k (0, 0) = L.getD (c * 64 + k) (0, 0) := by
  have h2 : k < 64 := by unfold part at h; rw [List.length_take] at h; omega
  unfold part
  rw [List.getD_eq_getElem?_getD, List.getD_eq_getElem?_getD, List.getElem?_take_of_lt h2, List.getElem?_drop, Nat.mul_comm]

theorem TF.mk' {w3 : World} {tb n : Nat} {t : Nat → Int} {L : List (Nat × Nat)} {N nb : Nat} {St En : Nat → Nat} {gc gs ge : Nat}
    (hT : w3.rowIs tb 5 n (fun k => .int .u8 (t k))) (hbd : ∀ x ∈ L, x.1 ≤ n ∧ x.2 ≤ n) (hlen : L.length ≤ n)
    (hcv : ∀ j, j < L.length * 1 → w3.cell? ⟨gc, j, none⟩ = (nums L.length)[j]?) (hsv : ∀ j, j < L.length * 1 → w3.cell? ⟨gs, j, none⟩ = (starts L)[j]?) (hev : ∀ j, j < L.length * 1 → w3.cell? ⟨ge, j, none⟩ = (ends L)[j]?)
    (hnb : nb = (L.length + 63) / 64) (hst : ∀ c, c < nb → St c = fstAt L (64 * c)) (hen : ∀ c, c < nb → En c = if c + 1 < nb then fstAt L (64 * (c + 1)) else sndAt L (L.length - 1)) (hne : ∀ c, c < nb → St c < En c ∧ En c ≤ n)
    (hz : ZO w3 N nb tb n St En (fun c => (part L c).length) (fun c j => spv (St c) (part L c) j)) :
    TF w3 tb n t L.length nb gc gs ge N (fstAt L) (sndAt L) En (fun c => (part L c).length) := by
  have hSt : ∀ c, c < nb → St c = fstAt L (c * 64) := fun c hc => by rw [hst c hc, Nat.mul_comm]
  have hoc : ∀ c i, c < nb → i < 4 → w3.cell? ⟨N, c * 4 + i, none⟩ = some (bkc (.int .i64 (St c : Int)) (.int .i64 (En c : Int)) (.slice (some ⟨tb, St c, none⟩) (En c - St c) (n - St c)) (.slice (some ⟨N + 1 + c, 0, none⟩) (part L c).length (part L c).length) i) := fun c i hc hi => by
    rw [hz.top (c * 4 + i) (by omega)]
    unfold oc
    rw [show (c * 4 + i) / 4 = c by omega, show (c * 4 + i) % 4 = i by omega]
  have hlt : ∀ c, c < nb → c * 64 < L.length := fun c hc => by omega
  have hget : ∀ c, c < nb → ∀ k, k < (part L c).length → (part L c).getD k (0, 0) = L.getD (c * 64 + k) (0, 0) := fun c _ k hk => part_get L c k hk
  refine ⟨hT, fun k hk => ?_, fun k hk => ?_, fun k hk => ?_, fun c hc => ?_, fun c hc => ?_, fun c hc => ?_, fun c hc => ?_, fun c hc k hk => ?_, fun c hc k hk => ?_, hnb, hlen, fun c hc => part_length L c (hlt c hc), fun c hc => ?_, fun c hc => ?_, fun k hk => ?_⟩
  · rw [hcv k (by omega)]; simp [nums, hk]
  · rw [hsv k (by omega)]; simp [starts, fstAt, hk]
  · rw [hev k (by omega)]; simp [ends, sndAt, hk]
  · have := hoc c 0 hc (by omega); rw [← hSt c hc]; simpa [bkc] using this
  · have := hoc c 1 hc (by omega); simpa [bkc] using this
  · have := hoc c 2 hc (by omega); rw [← hSt c hc]; simpa [bkc] using this
  · have := hoc c 3 hc (by omega); simpa [bkc] using this
  · rw [hz.done c hc (k * 2) (by omega)]
    unfold spv
    rw [if_pos (by omega), show k * 2 / 2 = k by omega, hget c hc k hk, hSt c hc]
    rfl
  · rw [hz.done c hc (k * 2 + 1) (by omega)]
    unfold spv
    rw [if_neg (by omega), show (k * 2 + 1) / 2 = k by omega, hget c hc k hk, hSt c hc]
    rfl
  · rw [hen c hc, show 64 * (c + 1) = c * 64 + 64 by omega]
  · rw [← hSt c hc]; exact hne c hc
  · have hm : L.getD k (0, 0) ∈ L := by
      rw [List.getD_eq_getElem?_getD, List.getElem?_eq_getElem hk]
      exact List.getElem_mem hk
    exact hbd _ hm

end Go.Proofs.Qxb6603699a
