import Derived.Test.Qxb6603719aTok
namespace Go.Proofs.Qxb6603719a
open Go.RowKit

theorem toList_loop (s : ByteArray) : ∀ (m i : Nat) (r : List UInt8), s.size - i = m → ByteArray.toList.loop s i r = r.reverse ++ s.data.toList.drop i := by
  intro m
  induction m with
  | zero =>
    intro i r h
    rw [ByteArray.toList.loop]
    rw [if_neg (by omega), List.drop_eq_nil_of_le (by simp; show s.size ≤ i; omega)]
    simp
  | succ m ih =>
    intro i r h
    have hi : i < s.size := by omega
    have hi2 : i < s.data.toList.length := by simpa using hi
    rw [ByteArray.toList.loop, if_pos hi, ih (i + 1) _ (by omega)]
    rw [List.drop_eq_getElem_cons hi2]
    have hi3 : i < s.data.size := hi
    have : s.get! i = s.data.toList[i] := by
      show s.data[i]! = _
      rw [getElem!_pos s.data i hi3]
      simp
    rw [this]
    simp

theorem toList_data (s : ByteArray) : s.toList = s.data.toList := by
  unfold ByteArray.toList
  rw [toList_loop s _ 0 [] rfl]
  simp

theorem bt_data (s : ByteArray) (i : Nat) (h : i < s.data.toList.length) : bt s i = (s.data.toList[i].toNat : Int) := by
  have h' : i < s.size := by simpa using h
  rw [← bt_eq s i h']
  rfl

theorem size_data (s : ByteArray) : s.size = s.data.toList.length := by simp

theorem toList2 (s : ByteArray) (a b : UInt8) : (s.toList == [a, b]) = (s.size == 2 && (bt s 0 == (a.toNat : Int) && bt s 1 == (b.toNat : Int))) := by
  rw [toList_data]
  have h0 := bt_data s 0
  have h1 := bt_data s 1
  have hz := size_data s
  generalize s.data.toList = l at *
  match l, h0, h1, hz with
  | [], _, _, hz => simp [hz]
  | [x], _, _, hz => simp [hz]
  | [x, y], h0, h1, hz =>
    rw [h0 (by simp), h1 (by simp), hz]
    rw [Bool.eq_iff_iff]
    simp [← UInt8.toNat_inj]
    omega
  | x :: y :: z :: r, _, _, hz => simp [hz]

theorem size_ext (s : ByteArray) (a b : Nat) (hb : b ≤ s.size) : (s.extract a b).size = b - a := by
  rw [ByteArray.size_extract]; omega

theorem bt_ext (s : ByteArray) (a b i : Nat) (hb : b ≤ s.size) (hi : i < b - a) : bt (s.extract a b) i = bt s (a + i) := by
  have h1 : i < (s.extract a b).size := by rw [size_ext s a b hb]; exact hi
  rw [← bt_eq _ i h1, ← bt_eq s (a + i) (by omega)]
  rw [ByteArray.getElem_extract]

/-- What one advance from e leaves: the start and the end of the token. -/
structure Adv (s : ByteArray) (e st en : Nat) : Prop where
  le1 : e ≤ st
  le2 : st ≤ en
  le3 : en ≤ s.size
  spaces : ∀ i, e ≤ i → i < st → bt s i = 32
  atEnd : st = s.size → en = s.size
  ne : st < s.size → ¬ bt s st = 32
  tk : st < s.size → tok (s.extract st en) = true
  longest : st < s.size → en < s.size → tok (s.extract st (en + 1)) = false

theorem tok_def (s : ByteArray) : tok s = ((s.size == 2 && ((bt s 0 == 61 || bt s 0 == 33) && bt s 1 == 61)) || ((s.size == 1 && isPunct (bt s 0)) || (!(s.size == 0) && decide (∀ i, i < s.size → okc (bt s i) = true)))) := by
  unfold tok
  rw [toList2, toList2]
  show ((s.size == 2 && (bt s 0 == 61 && bt s 1 == 61)) || (s.size == 2 && (bt s 0 == 33 && bt s 1 == 61)) || _) = _
  congr 1
  cases (s.size == 2) <;> cases (bt s 0 == 61) <;> cases (bt s 0 == 33) <;> cases (bt s 1 == 61) <;> rfl

/-- A text of two or more bytes whose first is no word's byte is a token only as "==" or "!=". -/
theorem tok_no (s : ByteArray) (h2 : 2 ≤ s.size) (j : Nat) (hj : j < s.size) (hb : okc (bt s j) = false) (hn : (s.size == 2 && ((bt s 0 == 61 || bt s 0 == 33) && bt s 1 == 61)) = false) : tok s = false := by
  rw [tok_def, hn]
  have h1 : (s.size == 1) = false := by rw [beq_eq_false_iff_ne]; omega
  rw [h1]
  have : decide (∀ i, i < s.size → okc (bt s i) = true) = false := decide_eq_false (fun h => by
    have := h j hj
    rw [hb] at this
    exact Bool.noConfusion this)
  rw [this]
  simp

theorem okc_punct {c : Int} (h : isPunct c = true) : okc c = false := by simp [okc, h]

theorem adv_end (s : ByteArray) (e : Nat) (he : e ≤ s.size) (hsp : ∀ i, e ≤ i → i < s.size → bt s i = 32) : Adv s e s.size s.size :=
  ⟨he, Nat.le_refl _, Nat.le_refl _, hsp, fun _ => rfl, fun h => by omega, fun h => by omega, fun h => by omega⟩

theorem adv_two (s : ByteArray) (e st : Nat) (he : e ≤ st) (h2 : st + 2 ≤ s.size) (hsp : ∀ i, e ≤ i → i < st → bt s i = 32) (h0 : bt s st = 61 ∨ bt s st = 33) (h1 : bt s (st + 1) = 61) : Adv s e st (st + 2) where
  le1 := he
  le2 := by omega
  le3 := h2
  spaces := hsp
  atEnd h := by omega
  ne _ := by omega
  tk _ := by
    rw [tok_def, size_ext s _ _ h2, bt_ext s _ _ 0 h2 (by omega), bt_ext s _ _ 1 h2 (by omega), h1]
    rcases h0 with h0 | h0 <;> simp [h0]
  longest _ h := by
    have hs := size_ext s st (st + 2 + 1) (by omega)
    have hb := bt_ext s st (st + 2 + 1) 0 (by omega) (by omega)
    refine tok_no _ (by omega) 0 (by omega) ?_ ?_
    · rw [hb]
      apply okc_punct
      rcases h0 with h0 | h0 <;> simp [h0, isPunct]
    · rw [hs, show st + 2 + 1 - st = 3 by omega]; rfl

theorem adv_one (s : ByteArray) (e st : Nat) (he : e ≤ st) (hl : st < s.size) (hsp : ∀ i, e ≤ i → i < st → bt s i = 32) (hp : isPunct (bt s st) = true) (hn : ((bt s st == 61 || bt s st == 33) && bt s (st + 1) == 61) = false) : Adv s e st (st + 1) where
  le1 := he
  le2 := by omega
  le3 := hl
  spaces := hsp
  atEnd h := by omega
  ne _ h := by rw [h] at hp; exact Bool.noConfusion hp
  tk _ := by
    rw [tok_def, size_ext s _ _ hl, bt_ext s _ _ 0 hl (by omega)]
    simp [hp]
  longest _ h := by
    have hs := size_ext s st (st + 1 + 1) (by omega)
    have hb : bt (s.extract st (st + 1 + 1)) 0 = bt s st := bt_ext s st (st + 1 + 1) 0 (by omega) (by omega)
    have hb1 := bt_ext s st (st + 1 + 1) 1 (by omega) (by omega)
    refine tok_no _ (by omega) 0 (by omega) ?_ ?_
    · rw [hb]
      exact okc_punct hp
    · rw [hb, hb1, hn]; simp

theorem adv_word (s : ByteArray) (e st en : Nat) (he : e ≤ st) (hlt : st < en) (hl : en ≤ s.size) (hsp : ∀ i, e ≤ i → i < st → bt s i = 32) (hw : ∀ i, st ≤ i → i < en → okc (bt s i) = true) (hend : en < s.size → okc (bt s en) = false) : Adv s e st en where
  le1 := he
  le2 := by omega
  le3 := hl
  spaces := hsp
  atEnd h := by omega
  ne _ h := by
    have := hw st (by omega) hlt
    rw [h] at this
    exact Bool.noConfusion this
  tk _ := by
    rw [tok_def]
    have h1 : decide (∀ i, i < (s.extract st en).size → okc (bt (s.extract st en) i) = true) = true := decide_eq_true (fun i hi => by
      rw [size_ext s _ _ hl] at hi
      rw [bt_ext s _ _ i hl hi]
      exact hw _ (by omega) (by omega))
    have h2 : ((s.extract st en).size == 0) = false := by rw [beq_eq_false_iff_ne, size_ext s _ _ hl]; omega
    rw [h1, h2]
    simp
  longest _ h := by
    have hs := size_ext s st (en + 1) (by omega)
    have hb : bt (s.extract st (en + 1)) 0 = bt s st := bt_ext s st (en + 1) 0 (by omega) (by omega)
    refine tok_no _ (by omega) (en - st) (by omega) ?_ ?_
    · rw [bt_ext s st (en + 1) (en - st) (by omega) (by omega), show st + (en - st) = en by omega]
      exact hend h
    · have h0 := hw st (by omega) hlt
      rw [hb]
      have h3 : (bt s st == 61 || bt s st == 33) = false := by
        rw [Bool.eq_false_iff]
        intro h
        have : isPunct (bt s st) = true := by
          simp at h
          simp [isPunct]
          omega
        rw [okc_punct this] at h0
        exact Bool.noConfusion h0
      rw [h3]
      simp

set_option maxHeartbeats 400000 in
theorem prefix2 (s : ByteArray) (a b : UInt8) (w : World) (hs : s.size ≤ 1000000) :
    Calls Try.prog 22 #[.string s, .string { data := #[a, b] }] w fun e w' => e = .returned (.bool (decide (2 ≤ s.size) && (bt s 0 == (a.toNat : Int) && bt s 1 == (b.toNat : Int)))) ∧ w' = w := by
  by_cases h : 2 ≤ s.size
  · have ht := toList2 (s.extract 0 2) a b
    rw [size_ext s 0 2 h, bt_ext s 0 2 0 h (by omega), bt_ext s 0 2 1 h (by omega)] at ht
    have e : (decide (2 ≤ s.size) && (bt s 0 == (a.toNat : Int) && bt s 1 == (b.toNat : Int))) = ((s.extract 0 2).toList == [a, b]) := by
      rw [ht]; simp [h]
    rw [e]
    clear e ht
    go_enter Try.func22, Try.ntmps22
    go_wp2
    go_ret
    exact ⟨rfl, rfl⟩
  · have e : (decide (2 ≤ s.size) && (bt s 0 == (a.toNat : Int) && bt s 1 == (b.toNat : Int))) = false := by simp [h]
    rw [e]
    clear e
    go_enter Try.func22, Try.ntmps22
    go_wp2
    go_ret
    exact ⟨rfl, rfl⟩

set_option maxHeartbeats 400000 in
theorem hasPrefix2 (s : ByteArray) (a b : UInt8) (w : World) (hs : s.size ≤ 1000000) :
    Calls Try.prog 20 #[.string s, .string { data := #[a, b] }] w fun e w' => e = .returned (.bool (decide (2 ≤ s.size) && (bt s 0 == (a.toNat : Int) && bt s 1 == (b.toNat : Int)))) ∧ w' = w := by
  generalize hR : (decide (2 ≤ s.size) && (bt s 0 == (a.toNat : Int) && bt s 1 == (b.toNat : Int))) = R
  have HR : Hid ((decide (2 ≤ s.size) && (bt s 0 == (a.toNat : Int) && bt s 1 == (b.toNat : Int))) = R) := hR
  clear hR
  go_enter Try.func20, Try.ntmps20
  go_wp2_with (go_at_call 22; refine (prefix2 s a b _ hs).mono ?_; rw [HR.out]; rintro e w' ⟨rfl, rfl⟩)
  go_ret
  exact ⟨rfl, rfl⟩
end Go.Proofs.Qxb6603719a
