/-
  The plain side: a text read character by character.
-/
namespace Go.Proofs.Qxb6609257a

/-- Where the next character begins. -/
def nxt (p : Nat → Bool) (f : Nat) : Nat := if p f = true then f + 2 else f + 1
theorem nxt_gt (p : Nat → Bool) (f : Nat) : f + 1 ≤ nxt p f ∧ nxt p f ≤ f + 2 := by unfold nxt; split <;> omega

/-- Characters read from f on till the place i is come to or passed. -/
def wlkF (p : Nat → Bool) (i : Nat) : Nat → Nat → Nat
  | 0, f => f
  | k + 1, f => if f < i then wlkF p i k (nxt p f) else f
theorem wlkF_any (p : Nat → Bool) (i : Nat) : ∀ (k f k' : Nat), i ≤ f + k → i ≤ f + k' → wlkF p i k f = wlkF p i k' f
  | 0, f, 0, _, _ => rfl
  | 0, f, k' + 1, h, _ => by simp only [wlkF]; rw [if_neg (by omega)]
  | k + 1, f, 0, _, h => by simp only [wlkF]; rw [if_neg (by omega)]
  | k + 1, f, k' + 1, h, h' => by
    simp only [wlkF]
    have := nxt_gt p f
    split
    · exact wlkF_any p i k _ k' (by omega) (by omega)
    · rfl
def wlk (p : Nat → Bool) (i f : Nat) : Nat := wlkF p i (i - f) f
theorem wlk_lt {p : Nat → Bool} {i f : Nat} (h : f < i) : wlk p i f = wlk p i (nxt p f) := by
  have := nxt_gt p f
  unfold wlk
  rw [wlkF_any p i (i - f) f (i - f + 1) (by omega) (by omega)]
  simp only [wlkF]
  rw [if_pos h]
  exact wlkF_any p i _ _ _ (by omega) (by omega)
theorem wlk_ge {p : Nat → Bool} {i f : Nat} (h : i ≤ f) : wlk p i f = f := by
  unfold wlk
  rw [show i - f = 0 by omega]
  rfl

/-- The first character at or behind f that is the byte q; -1: none. -/
def idxF (n : Nat) (p : Nat → Bool) (t : Nat → Nat) (q : Nat) : Nat → Nat → Int
  | 0, _ => -1
  | k + 1, f => if f < n then (if p f = true then idxF n p t q k (f + 2) else if t f = q then (f : Int) else idxF n p t q k (f + 1)) else -1
theorem idxF_any (n : Nat) (p : Nat → Bool) (t : Nat → Nat) (q : Nat) : ∀ (k f k' : Nat), n ≤ f + k → n ≤ f + k' → idxF n p t q k f = idxF n p t q k' f
  | 0, f, 0, _, _ => rfl
  | 0, f, k' + 1, h, _ => by simp only [idxF]; rw [if_neg (by omega)]
  | k + 1, f, 0, _, h => by simp only [idxF]; rw [if_neg (by omega)]
  | k + 1, f, k' + 1, h, h' => by
    simp only [idxF]
    rw [idxF_any n p t q k (f + 2) k' (by omega) (by omega), idxF_any n p t q k (f + 1) k' (by omega) (by omega)]
def idx (n : Nat) (p : Nat → Bool) (t : Nat → Nat) (q f : Nat) : Int := idxF n p t q (n - f) f
theorem idx_lt {n : Nat} {p : Nat → Bool} {t : Nat → Nat} {q f : Nat} (h : f < n) : idx n p t q f = if p f = true then idx n p t q (f + 2) else if t f = q then (f : Int) else idx n p t q (f + 1) := by
  unfold idx
  rw [idxF_any n p t q (n - f) f (n - f + 1) (by omega) (by omega)]
  simp only [idxF]
  rw [if_pos h, idxF_any n p t q (n - f) (f + 2) (n - (f + 2)) (by omega) (by omega), idxF_any n p t q (n - f) (f + 1) (n - (f + 1)) (by omega) (by omega)]
theorem idx_ge {n : Nat} {p : Nat → Bool} {t : Nat → Nat} {q f : Nat} (h : n ≤ f) : idx n p t q f = -1 := by
  unfold idx
  rw [show n - f = 0 by omega]
  rfl

/-- One step of the model at place j, the answers from two places on being given. -/
def stepA (bs dbl : Bool) (n : Nat) (p : Nat → Bool) (t : Nat → Nat) (q j : Nat) (r1 r2 : Nat × Nat) : Nat × Nat :=
  if bs = true then
    (if t j = q then (if dbl = true ∧ j + 1 < n ∧ t (j + 1) = q then r2 else (j + 1, 0)) else if t j = 92 ∨ p j = true then r2 else r1)
  else
    (if p j = true then r2 else if t j = q then (if dbl = true ∧ j + 1 < n ∧ t (j + 1) = q then r2 else (j + 1, 0)) else r1)
/-- The model's answer from place j on. -/
def ansF (bs dbl : Bool) (n : Nat) (p : Nat → Bool) (t : Nat → Nat) (q : Nat) : Nat → Nat → Nat × Nat
  | 0, _ => (n, 1)
  | k + 1, j => if j < n then stepA bs dbl n p t q j (ansF bs dbl n p t q k (j + 1)) (ansF bs dbl n p t q k (j + 2)) else (n, 1)
theorem ansF_any (bs dbl : Bool) (n : Nat) (p : Nat → Bool) (t : Nat → Nat) (q : Nat) : ∀ (k f k' : Nat), n ≤ f + k → n ≤ f + k' → ansF bs dbl n p t q k f = ansF bs dbl n p t q k' f
  | 0, f, 0, _, _ => rfl
  | 0, f, k' + 1, h, _ => by simp only [ansF]; rw [if_neg (by omega)]
  | k + 1, f, 0, _, h => by simp only [ansF]; rw [if_neg (by omega)]
  | k + 1, f, k' + 1, h, h' => by
    simp only [ansF]
    rw [ansF_any bs dbl n p t q k (f + 2) k' (by omega) (by omega), ansF_any bs dbl n p t q k (f + 1) k' (by omega) (by omega)]
def ans (bs dbl : Bool) (n : Nat) (p : Nat → Bool) (t : Nat → Nat) (q j : Nat) : Nat × Nat := ansF bs dbl n p t q (n - j) j
theorem ans_lt {bs dbl : Bool} {n : Nat} {p : Nat → Bool} {t : Nat → Nat} {q j : Nat} (h : j < n) : ans bs dbl n p t q j = stepA bs dbl n p t q j (ans bs dbl n p t q (j + 1)) (ans bs dbl n p t q (j + 2)) := by
  unfold ans
  rw [ansF_any bs dbl n p t q (n - j) j (n - j + 1) (by omega) (by omega)]
  simp only [ansF]
  rw [if_pos h, ansF_any bs dbl n p t q (n - j) (j + 2) (n - (j + 2)) (by omega) (by omega), ansF_any bs dbl n p t q (n - j) (j + 1) (n - (j + 1)) (by omega) (by omega)]
theorem ans_ge {bs dbl : Bool} {n : Nat} {p : Nat → Bool} {t : Nat → Nat} {q j : Nat} (h : n ≤ j) : ans bs dbl n p t q j = (n, 1) := by
  unfold ans
  rw [show n - j = 0 by omega]
  rfl

/-- No backslash, nothing doubled: the first such character. -/
theorem ans_plain {n : Nat} {p : Nat → Bool} {t : Nat → Nat} {q : Nat} : ∀ (k j : Nat), n ≤ j + k → (idx n p t q j = -1 ∧ ans false false n p t q j = (n, 1)) ∨ ∃ a : Nat, idx n p t q j = a ∧ j ≤ a ∧ a < n ∧ t a = q ∧ ans false false n p t q j = (a + 1, 0)
  | 0, j, h => .inl ⟨idx_ge (by omega), ans_ge (by omega)⟩
  | k + 1, j, h => by
    by_cases hj : j < n
    · rw [idx_lt hj, ans_lt hj]
      unfold stepA
      simp only [Bool.false_eq_true, if_false, false_and]
      by_cases hp : p j = true
      · rw [if_pos hp, if_pos hp]
        rcases ans_plain (n := n) (p := p) (t := t) (q := q) k (j + 2) (by omega) with h | ⟨a, h1, h2, h3⟩
        · exact .inl h
        · exact .inr ⟨a, h1, by omega, h3⟩
      · rw [if_neg hp, if_neg hp]
        by_cases hq : t j = q
        · rw [if_pos hq, if_pos hq]
          exact .inr ⟨j, rfl, Nat.le_refl _, hj, hq, rfl⟩
        · rw [if_neg hq, if_neg hq]
          rcases ans_plain (n := n) (p := p) (t := t) (q := q) k (j + 1) (by omega) with h | ⟨a, h1, h2, h3⟩
          · exact .inl h
          · exact .inr ⟨a, h1, by omega, h3⟩
    · exact .inl ⟨idx_ge (by omega), ans_ge (by omega)⟩

/-- No backslash, doubled: from one such character to the next. -/
theorem ans_doubled {n : Nat} {p : Nat → Bool} {t : Nat → Nat} {q : Nat} : ∀ (k j : Nat), n ≤ j + k → (idx n p t q j = -1 ∧ ans false true n p t q j = (n, 1)) ∨ ∃ a : Nat, idx n p t q j = a ∧ j ≤ a ∧ a < n ∧ t a = q ∧ ans false true n p t q j = if a + 1 < n ∧ t (a + 1) = q then ans false true n p t q (a + 2) else (a + 1, 0)
  | 0, j, h => .inl ⟨idx_ge (by omega), ans_ge (by omega)⟩
  | k + 1, j, h => by
    by_cases hj : j < n
    · rw [idx_lt hj, ans_lt hj]
      unfold stepA
      simp only [Bool.false_eq_true, if_false, true_and]
      by_cases hp : p j = true
      · rw [if_pos hp, if_pos hp]
        rcases ans_doubled (n := n) (p := p) (t := t) (q := q) k (j + 2) (by omega) with h | ⟨a, h1, h2, h3⟩
        · exact .inl h
        · exact .inr ⟨a, h1, by omega, h3⟩
      · rw [if_neg hp, if_neg hp]
        by_cases hq : t j = q
        · rw [if_pos hq, if_pos hq]
          exact .inr ⟨j, rfl, Nat.le_refl _, hj, hq, rfl⟩
        · rw [if_neg hq, if_neg hq]
          rcases ans_doubled (n := n) (p := p) (t := t) (q := q) k (j + 1) (by omega) with h | ⟨a, h1, h2, h3⟩
          · exact .inl h
          · exact .inr ⟨a, h1, by omega, h3⟩
    · exact .inl ⟨idx_ge (by omega), ans_ge (by omega)⟩

end Go.Proofs.Qxb6609257a
