/-
  The two readers side by side: plain.
-/
import Derived.Test.Qxb6609257aPlain
namespace Go.Proofs.Qxb6609257a

/-- What an answer looks like. -/
theorem ans_form {bs dbl : Bool} {n : Nat} {p : Nat → Bool} {t : Nat → Nat} {q : Nat} : ∀ (k j : Nat), n ≤ j + k → ans bs dbl n p t q j = (n, 1) ∨ ∃ a : Nat, ans bs dbl n p t q j = (a + 1, 0) ∧ j ≤ a ∧ a < n ∧ t a = q
  | 0, j, h => .inl (ans_ge (by omega))
  | k + 1, j, h => by
    by_cases hj : j < n
    · have h1 := ans_form (bs := bs) (dbl := dbl) (n := n) (p := p) (t := t) (q := q) k (j + 1) (by omega)
      have h2 := ans_form (bs := bs) (dbl := dbl) (n := n) (p := p) (t := t) (q := q) k (j + 2) (by omega)
      have g1 : ans bs dbl n p t q (j + 1) = (n, 1) ∨ ∃ a : Nat, ans bs dbl n p t q (j + 1) = (a + 1, 0) ∧ j ≤ a ∧ a < n ∧ t a = q := h1.imp id fun ⟨a, x, y, z⟩ => ⟨a, x, by omega, z⟩
      have g2 : ans bs dbl n p t q (j + 2) = (n, 1) ∨ ∃ a : Nat, ans bs dbl n p t q (j + 2) = (a + 1, 0) ∧ j ≤ a ∧ a < n ∧ t a = q := h2.imp id fun ⟨a, x, y, z⟩ => ⟨a, x, by omega, z⟩
      have g3 : t j = q → ((j + 1, 0) : Nat × Nat) = (n, 1) ∨ ∃ a : Nat, ((j + 1, 0) : Nat × Nat) = (a + 1, 0) ∧ j ≤ a ∧ a < n ∧ t a = q := fun hq => .inr ⟨j, rfl, Nat.le_refl _, hj, hq⟩
      rw [ans_lt hj]
      unfold stepA
      cases bs
      · rw [if_neg (by simp)]
        split
        · exact g2
        · split
          · split
            · exact g2
            · exact g3 (by assumption)
          · exact g1
      · rw [if_pos rfl]
        split
        · split
          · exact g2
          · exact g3 (by assumption)
        · split
          · exact g2
          · exact g1
    · exact .inl (ans_ge (by omega))

/-- Both readers come to the same first quote. -/
theorem ans_two {bs : Bool} {n : Nat} {p : Nat → Bool} {t : Nat → Nat} {q : Nat} : ∀ (k j : Nat), n ≤ j + k → (ans bs false n p t q j = (n, 1) ∧ ans bs true n p t q j = (n, 1)) ∨
    ∃ a : Nat, ans bs false n p t q j = (a + 1, 0) ∧ j ≤ a ∧ a < n ∧ t a = q ∧ ans bs true n p t q j = if a + 1 < n ∧ t (a + 1) = q then ans bs true n p t q (a + 2) else (a + 1, 0)
  | 0, j, h => .inl ⟨ans_ge (by omega), ans_ge (by omega)⟩
  | k + 1, j, h => by
    by_cases hj : j < n
    · have h1 := ans_two (bs := bs) (n := n) (p := p) (t := t) (q := q) k (j + 1) (by omega)
      have h2 := ans_two (bs := bs) (n := n) (p := p) (t := t) (q := q) k (j + 2) (by omega)
      rw [ans_lt hj, ans_lt (dbl := true) hj]
      unfold stepA
      simp only [Bool.false_eq_true, if_false, false_and, true_and]
      cases bs
      · simp only [Bool.false_eq_true, if_false]
        by_cases hp : p j = true
        · rw [if_pos hp, if_pos hp]
          exact h2.imp id fun ⟨a, x, y, z⟩ => ⟨a, x, by omega, z⟩
        · rw [if_neg hp, if_neg hp]
          by_cases hq : t j = q
          · rw [if_pos hq, if_pos hq]
            exact .inr ⟨j, rfl, Nat.le_refl _, hj, hq, rfl⟩
          · rw [if_neg hq, if_neg hq]
            exact h1.imp id fun ⟨a, x, y, z⟩ => ⟨a, x, by omega, z⟩
      · simp only [if_true]
        by_cases hq : t j = q
        · rw [if_pos hq, if_pos hq]
          exact .inr ⟨j, rfl, Nat.le_refl _, hj, hq, rfl⟩
        · rw [if_neg hq, if_neg hq]
          by_cases hp : t j = 92 ∨ p j = true
          · rw [if_pos hp, if_pos hp]
            exact h2.imp id fun ⟨a, x, y, z⟩ => ⟨a, x, by omega, z⟩
          · rw [if_neg hp, if_neg hp]
            exact h1.imp id fun ⟨a, x, y, z⟩ => ⟨a, x, by omega, z⟩
    · exact .inl ⟨ans_ge (by omega), ans_ge (by omega)⟩

/-- The five ways. -/
theorem ans_ways {bs : Bool} {n : Nat} {p : Nat → Bool} {t : Nat → Nat} {q : Nat} (j : Nat) :
    (ans bs false n p t q j = (n, 1) ∧ ans bs true n p t q j = (n, 1)) ∨
    ∃ a : Nat, ans bs false n p t q j = (a + 1, 0) ∧ j ≤ a ∧ a < n ∧ t a = q ∧
      ((n ≤ a + 1 ∧ ans bs true n p t q j = (a + 1, 0)) ∨ (a + 1 < n ∧ t (a + 1) ≠ q ∧ ans bs true n p t q j = (a + 1, 0)) ∨
       (a + 1 < n ∧ t (a + 1) = q ∧ ans bs true n p t q j = (n, 1)) ∨ (a + 1 < n ∧ t (a + 1) = q ∧ ∃ e : Nat, ans bs true n p t q j = (e + 1, 0) ∧ a + 2 ≤ e ∧ e < n ∧ t e = q)) := by
  rcases ans_two (bs := bs) (n := n) (p := p) (t := t) (q := q) n j (by omega) with h | ⟨a, h1, h2, h3, h4, h5⟩
  · exact .inl h
  · refine .inr ⟨a, h1, h2, h3, h4, ?_⟩
    by_cases g1 : a + 1 < n
    · by_cases g2 : t (a + 1) = q
      · rw [if_pos ⟨g1, g2⟩] at h5
        rcases ans_form (bs := bs) (dbl := true) (n := n) (p := p) (t := t) (q := q) n (a + 2) (by omega) with g | ⟨e, e1, e2, e3, e4⟩
        · exact .inr (.inr (.inl ⟨g1, g2, by rw [h5, g]⟩))
        · exact .inr (.inr (.inr ⟨g1, g2, e, by rw [h5, e1], e2, e3, e4⟩))
      · rw [if_neg (fun h => g2 h.2)] at h5
        exact .inr (.inl ⟨g1, g2, h5⟩)
    · rw [if_neg (fun h => g1 h.1)] at h5
      exact .inl ⟨by omega, h5⟩

end Go.Proofs.Qxb6609257a
