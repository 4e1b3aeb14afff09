/-
  THE PLAIN LAWS of seat b6603699a's two scanners of JSON text: no Go in sight. 't k': the byte at place k; 'n': the text's length.
-/
namespace Go.Proofs.Qxb6603699a

def isSp (c : Int) : Bool := c == 32 || c == 9 || c == 10 || c == 13

/-- one more than the last place below m that holds a quote; 0 where there is none -/
def lastQ (t : Nat → Int) : Nat → Nat
  | 0 => 0
  | m + 1 => if t m = 34 then m + 1 else lastQ t m

/-- the first place (counted from p) of c among the m bytes from p on; -1 where there is none -/
def idxF (t : Nat → Int) (c : Int) : Nat → Nat → Int
  | _, 0 => -1
  | p, m + 1 => if t p = c then 0 else if idxF t c (p + 1) m = -1 then -1 else idxF t c (p + 1) m + 1

theorem idxF_spec (t : Nat → Int) (c : Int) : ∀ m p, (idxF t c p m = -1 ∧ ∀ k, k < m → t (p + k) ≠ c) ∨ ∃ k : Nat, k < m ∧ idxF t c p m = k ∧ t (p + k) = c ∧ ∀ j, j < k → t (p + j) ≠ c
  | 0, p => Or.inl ⟨rfl, fun k hk => absurd hk (Nat.not_lt_zero _)⟩
  | m + 1, p => by
    by_cases h : t p = c
    · exact Or.inr ⟨0, by omega, by simp [idxF, h], by simpa using h, fun j hj => absurd hj (Nat.not_lt_zero _)⟩
    · rcases idxF_spec t c m (p + 1) with ⟨h1, h2⟩ | ⟨k, h1, h2, h3, h4⟩
      · refine Or.inl ⟨by simp [idxF, h, h1], fun k hk => ?_⟩
        cases k with
        | zero => simpa using h
        | succ k => have := h2 k (by omega); rwa [show p + 1 + k = p + (k + 1) by omega] at this
      · refine Or.inr ⟨k + 1, by omega, ?_, by rwa [show p + 1 + k = p + (k + 1) by omega] at h3, fun j hj => ?_⟩
        · simp only [idxF, h, if_false, h2]
          rw [if_neg (by omega)]
          omega
        · cases j with
          | zero => simpa using h
          | succ j => have := h4 j (by omega); rwa [show p + 1 + j = p + (j + 1) by omega] at this

theorem idxF_bd (t : Nat → Int) (c : Int) (m p : Nat) : -1 ≤ idxF t c p m ∧ idxF t c p m < m := by
  rcases idxF_spec t c m p with ⟨h, _⟩ | ⟨k, h1, h2, _⟩ <;> omega

/-- A string's text from place j on ('esc': the place stands behind a backslash that escapes): one past the quote that closes it. The first number: how many bytes are left. -/
def sScan (t : Nat → Int) : Nat → Nat → Bool → Option Nat
  | 0, _, _ => none
  | f + 1, j, esc => if esc = true then sScan t f (j + 1) false else if t j = 92 then sScan t f (j + 1) true else if t j = 34 then some (j + 1) else sScan t f (j + 1) false

theorem sScan_lt (t : Nat → Int) : ∀ f j esc e, sScan t f j esc = some e → j < e ∧ e ≤ j + f
  | 0, _, _, _, h => by simp [sScan] at h
  | f + 1, j, esc, e, h => by
    unfold sScan at h
    split at h
    · have := sScan_lt t f _ _ _ h; omega
    · split at h
      · have := sScan_lt t f _ _ _ h; omega
      · split at h
        · simp at h; omega
        · have := sScan_lt t f _ _ _ h; omega

theorem sScan_none (t : Nat → Int) : ∀ f j esc, (∀ k, k < f → t (j + k) ≠ 34) → sScan t f j esc = none
  | 0, _, _, _ => rfl
  | f + 1, j, esc, h => by
    have h0 : t j ≠ 34 := by simpa using h 0 (by omega)
    have ih := fun e => sScan_none t f (j + 1) e (fun k hk => by have := h (k + 1) (by omega); rwa [show j + (k + 1) = j + 1 + k by omega] at this)
    simp [sScan, h0, ih]

/-- the escape flag behind k bytes -/
def escAt (t : Nat → Int) (p : Nat) (e : Bool) : Nat → Bool
  | 0 => e
  | k + 1 => if escAt t p e k = true then false else decide (t (p + k) = 92)

theorem sScan_run (t : Nat → Int) (n p : Nat) (e : Bool) : ∀ k, p + k ≤ n → (∀ j, j < k → t (p + j) ≠ 34) → sScan t (n - p) p e = sScan t (n - (p + k)) (p + k) (escAt t p e k)
  | 0, _, _ => rfl
  | k + 1, hk, hq => by
    rw [sScan_run t n p e k (by omega) (fun j hj => hq j (by omega))]
    have hf : n - (p + k) = (n - (p + (k + 1))) + 1 := by omega
    rw [hf]
    have h34 := hq k (by omega)
    by_cases he : escAt t p e k = true
    · simp [sScan, escAt, he, Nat.add_assoc]
    · by_cases h92 : t (p + k) = 92
      · simp [sScan, escAt, he, h92, Nat.add_assoc]
      · simp [sScan, escAt, he, h92, h34, Nat.add_assoc]

theorem escAt_run (t : Nat → Int) (p : Nat) : ∀ k, (∀ j, j < k → t (p + j) = 92) → escAt t p false k = decide (k % 2 = 1)
  | 0, _ => rfl
  | k + 1, h => by
    have ih := escAt_run t p k (fun j hj => h j (by omega))
    have h0 := h k (by omega)
    simp only [escAt, ih, h0]
    by_cases hk : k % 2 = 1
    · simp [hk]; omega
    · simp [hk]; omega

/-- From p (not escaped) to the first quote q at or behind p: b: where the backslashes right ahead of q begin. -/
theorem sScan_seg (t : Nat → Int) (n p b q : Nat) (h1 : p ≤ b) (h2 : b ≤ q) (h3 : q < n) (hno : ∀ j, p ≤ j → j < q → t j ≠ 34) (hq : t q = 34) (hrun : ∀ j, b ≤ j → j < q → t j = 92) (hb : b = p ∨ t (b - 1) ≠ 92) :
    sScan t (n - p) p false = if (q - b) % 2 = 0 then some (q + 1) else sScan t (n - (q + 1)) (q + 1) false := by
  have e1 := sScan_run t n p false (b - p) (by omega) (fun j hj => hno _ (by omega) (by omega))
  have eb : escAt t p false (b - p) = false := by
    rcases hb with rfl | hb
    · simp [escAt]
    · by_cases hbp : b = p
      · subst hbp; simp [escAt]
      · obtain ⟨k, hk⟩ : ∃ k, b - p = k + 1 := ⟨b - p - 1, by omega⟩
        rw [hk]
        simp only [escAt]
        rw [show p + k = b - 1 by omega]
        simp [hb]
  rw [eb, show p + (b - p) = b by omega] at e1
  have e2 := sScan_run t n b false (q - b) (by omega) (fun j hj => hno _ (by omega) (by omega))
  rw [escAt_run t b (q - b) (fun j hj => hrun _ (by omega) (by omega)), show b + (q - b) = q by omega] at e2
  rw [e1, e2, show n - q = (n - (q + 1)) + 1 by omega]
  by_cases hm : (q - b) % 2 = 0
  · have : ¬ (q - b) % 2 = 1 := by omega
    simp [sScan, hm, hq]
  · have : (q - b) % 2 = 1 := by omega
    simp [sScan, this]

theorem lastQ_at (t : Nat → Int) (p : Nat) (hp : 0 < p) (hq : t (p - 1) = 34) : ∀ m, p ≤ m → (∀ j, p ≤ j → j < m → t j ≠ 34) → lastQ t m = p
  | 0, h, _ => by omega
  | m + 1, h, hno => by
    by_cases e : p = m + 1
    · subst e
      have : t m = 34 := by simpa using hq
      simp [lastQ, this]
    · have := hno m (by omega) (by omega)
      simp [lastQ, this, lastQ_at t p hp hq m (by omega) (fun j a b => hno j a (by omega))]

theorem lastQ_le (t : Nat → Int) : ∀ m, lastQ t m ≤ m
  | 0 => Nat.le_refl _
  | m + 1 => by
    unfold lastQ
    split
    · omega
    · have := lastQ_le t m; omega

/-- What '(*scanner).str' answers, standing at the opening quote i. -/
def strR (t : Nat → Int) (n i : Nat) : Bool × Nat := match sScan t (n - (i + 1)) (i + 1) false with
  | some e => (true, e)
  | none => (false, lastQ t n)

/-- The one-pass model's loop. -/
def vmL (t : Nat → Int) (n : Nat) : Nat → Nat → Int → Bool → Bool → Bool × Nat
  | 0, _, _, inS, _ => if inS = true then (false, lastQ t n) else (false, n)
  | f + 1, j, d, inS, esc =>
    if inS = true then
      if esc = true then vmL t n f (j + 1) d true false
      else if t j = 92 then vmL t n f (j + 1) d true true
      else if t j = 34 then if d = 0 then (true, j + 1) else vmL t n f (j + 1) d false false
      else vmL t n f (j + 1) d true false
    else if t j = 34 then vmL t n f (j + 1) d true esc
    else if t j = 123 ∨ t j = 91 then vmL t n f (j + 1) (d + 1) false esc
    else if t j = 125 ∨ t j = 93 then if d - 1 = 0 then (true, j + 1) else vmL t n f (j + 1) (d - 1) false esc
    else vmL t n f (j + 1) d false esc

theorem vmL_str (t : Nat → Int) (n : Nat) (d : Int) : ∀ f j esc, j + f = n → vmL t n f j d true esc = match sScan t f j esc with
    | some e => if d = 0 then (true, e) else vmL t n (n - e) e d false false
    | none => (false, lastQ t n)
  | 0, _, _, _ => by simp [vmL, sScan]
  | f + 1, j, esc, h => by
    have ih := fun e => vmL_str t n d f (j + 1) e (by omega)
    have hf : n - (j + 1) = f := by omega
    by_cases he : esc = true
    · simp [vmL, sScan, he, ih]
    · by_cases h92 : t j = 92
      · simp [vmL, sScan, he, h92, ih]
      · by_cases h34 : t j = 34
        · simp [vmL, sScan, he, h34, hf]
        · simp [vmL, sScan, he, h92, h34, ih]

/-- At an opening quote, inside brackets. -/
theorem vmL_quote_in (t : Nat → Int) (n p : Nat) (d : Int) (hp : p < n) (hq : t p = 34) (hd : d ≠ 0) :
    vmL t n (n - p) p d false false = if (strR t n p).1 = true then vmL t n (n - (strR t n p).2) (strR t n p).2 d false false else (false, (strR t n p).2) := by
  rw [show n - p = (n - (p + 1)) + 1 by omega]
  have := vmL_str t n d (n - (p + 1)) (p + 1) false (by omega)
  unfold strR
  cases h : sScan t (n - (p + 1)) (p + 1) false with
  | none => simp [vmL, hq, this, h]
  | some e => simp [vmL, hq, this, h, hd]

/-- At an opening quote, outside brackets. -/
theorem vmL_quote_out (t : Nat → Int) (n p : Nat) (hp : p < n) (hq : t p = 34) : vmL t n (n - p) p 0 false false = strR t n p := by
  rw [show n - p = (n - (p + 1)) + 1 by omega]
  have := vmL_str t n 0 (n - (p + 1)) (p + 1) false (by omega)
  unfold strR
  cases h : sScan t (n - (p + 1)) (p + 1) false with
  | none => simp [vmL, hq, this, h]
  | some e => simp [vmL, hq, this, h]

theorem strR_bd (t : Nat → Int) (n i : Nat) (hi : i < n) : (strR t n i).2 ≤ n ∧ ((strR t n i).1 = true → i + 1 < (strR t n i).2) := by
  unfold strR
  cases h : sScan t (n - (i + 1)) (i + 1) false with
  | none => exact ⟨lastQ_le t n, by simp⟩
  | some e => have := sScan_lt t _ _ _ _ h; simp; omega

def stopB (c : Int) : Bool := isSp c || c == 44 || c == 93 || c == 125

/-- where a number, true, false or null ends -/
def aEnd (t : Nat → Int) : Nat → Nat → Nat
  | 0, j => j
  | f + 1, j => if stopB (t j) = true then j else aEnd t f (j + 1)

theorem aEnd_bd (t : Nat → Int) : ∀ f j, j ≤ aEnd t f j ∧ aEnd t f j ≤ j + f
  | 0, j => by simp [aEnd]
  | f + 1, j => by
    unfold aEnd
    split
    · omega
    · have := aEnd_bd t f (j + 1); omega

/-- WHAT BOTH SCANNERS ANSWER at place i: is there a value, and where does the scanner stand behind it. -/
def valF (t : Nat → Int) (n i : Nat) : Bool × Nat :=
  if n ≤ i then (false, i)
  else if t i = 34 ∨ t i = 123 ∨ t i = 91 then vmL t n (n - i) i 0 false false
  else (decide (i < aEnd t (n - i) i), aEnd t (n - i) i)

theorem vmL_bd (t : Nat → Int) (n : Nat) : ∀ f j d inS esc, j + f = n → (vmL t n f j d inS esc).2 ≤ n ∧ ((vmL t n f j d inS esc).1 = true → j < (vmL t n f j d inS esc).2)
  | 0, j, d, inS, esc, h => by
    unfold vmL
    split
    · exact ⟨lastQ_le t n, by simp⟩
    · simp
  | f + 1, j, d, inS, esc, h => by
    have ih := fun d i e => vmL_bd t n f (j + 1) d i e (by omega)
    have key : ∀ d i e, (vmL t n f (j + 1) d i e).2 ≤ n ∧ ((vmL t n f (j + 1) d i e).1 = true → j < (vmL t n f (j + 1) d i e).2) := fun d i e => ⟨(ih d i e).1, fun hh => by have := (ih d i e).2 hh; omega⟩
    have here : ((true, j + 1) : Bool × Nat).2 ≤ n ∧ (((true, j + 1) : Bool × Nat).1 = true → j < ((true, j + 1) : Bool × Nat).2) := ⟨by simp; omega, fun _ => by simp⟩
    unfold vmL
    repeat' split
    all_goals first | exact key _ _ _ | exact here

theorem valF_bd (t : Nat → Int) (n i : Nat) (hi : i ≤ n) : (valF t n i).2 ≤ n ∧ ((valF t n i).1 = true → i < (valF t n i).2) := by
  unfold valF
  split
  · simp; omega
  · split
    · exact vmL_bd t n _ _ _ _ _ (by omega)
    · have := aEnd_bd t (n - i) i
      simp; omega

end Go.Proofs.Qxb6603699a
