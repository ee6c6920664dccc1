/-
  The plain side of the walk with backslashes.
-/
import Derived.Test.Qxb6609257aPlain
namespace Go.Proofs.Qxb6609257a

/-- The walk comes to i, or passes it by one, over a pair. -/
theorem wlk_cases {p : Nat → Bool} {i : Nat} : ∀ (k f : Nat), f ≤ i → i ≤ f + k → wlk p i f = i ∨ (wlk p i f = i + 1 ∧ 1 ≤ i ∧ f ≤ i - 1 ∧ p (i - 1) = true)
  | 0, f, h, hk => .inl (by rw [wlk_ge (by omega)]; omega)
  | k + 1, f, h, hk => by
    by_cases hf : f < i
    · rw [wlk_lt hf]
      by_cases hp : p f = true
      · have hx : nxt p f = f + 2 := by unfold nxt; rw [if_pos hp]
        rw [hx]
        by_cases h2 : f + 2 ≤ i
        · rcases wlk_cases (p := p) (i := i) k (f + 2) h2 (by omega) with h | ⟨a, b, c, d⟩
          · exact .inl h
          · exact .inr ⟨a, b, by omega, d⟩
        · right
          refine ⟨by rw [wlk_ge (by omega)]; omega, by omega, by omega, ?_⟩
          rw [show i - 1 = f by omega]; exact hp
      · have hx : nxt p f = f + 1 := by unfold nxt; rw [if_neg hp]
        rw [hx]
        rcases wlk_cases (p := p) (i := i) k (f + 1) (by omega) (by omega) with h | ⟨a, b, c, d⟩
        · exact .inl h
        · exact .inr ⟨a, b, by omega, d⟩
    · exact .inl (by rw [wlk_ge (by omega)]; omega)

/-- The walk on to the next place, from where it stands. -/
theorem wlk_succ {p : Nat → Bool} {i : Nat} : ∀ (k f : Nat), f ≤ i → i ≤ f + k → wlk p (i + 1) f = if wlk p i f = i then nxt p i else wlk p i f
  | 0, f, h, hk => by
    have e : f = i := by omega
    subst e
    rw [wlk_ge (Nat.le_refl _), if_pos rfl, wlk_lt (by omega)]
    have := nxt_gt p f
    exact wlk_ge (by omega)
  | k + 1, f, h, hk => by
    by_cases hf : f < i
    · rw [wlk_lt hf, wlk_lt (show f < i + 1 by omega)]
      have := nxt_gt p f
      by_cases h2 : nxt p f ≤ i
      · exact wlk_succ k _ h2 (by omega)
      · rw [wlk_ge (show i ≤ nxt p f by omega), wlk_ge (show i + 1 ≤ nxt p f by omega), if_neg (by omega)]
    · have e : f = i := by omega
      subst e
      rw [wlk_ge (Nat.le_refl _), if_pos rfl, wlk_lt (by omega)]
      have := nxt_gt p f
      exact wlk_ge (by omega)

/-- One byte on, neither the quote nor a backslash. -/
theorem back_on {dbl : Bool} {n : Nat} {p : Nat → Bool} {t : Nat → Nat} {q a f : Nat} (hf : f ≤ a) (ha : a < n) (hq : t a ≠ q) (hb : t a ≠ 92) : ans true dbl n p t q (wlk p a f) = ans true dbl n p t q (wlk p (a + 1) f) := by
  rw [wlk_succ (a - f) f hf (by omega)]
  by_cases h : wlk p a f = a
  · rw [if_pos h, h, ans_lt ha]
    unfold stepA nxt
    rw [if_pos rfl, if_neg hq]
    by_cases hp : p a = true
    · rw [if_pos (.inr hp), if_pos hp]
    · rw [if_neg (fun h => h.elim hb hp), if_neg hp]
  · rw [if_neg h]
/-- The second byte of a pair is passed. -/
theorem back_over {dbl : Bool} {n : Nat} {p : Nat → Bool} {t : Nat → Nat} {q a f : Nat} (hf : f ≤ a) (h : a < wlk p a f) : 1 ≤ a ∧ ans true dbl n p t q (wlk p a f) = ans true dbl n p t q (wlk p (a + 1) (a - 1)) := by
  rcases wlk_cases (p := p) (i := a) (a - f) f hf (by omega) with e | ⟨e, h1, h2, h3⟩
  · omega
  · refine ⟨h1, ?_⟩
    rw [e, wlk_lt (show a - 1 < a + 1 by omega), show nxt p (a - 1) = a + 1 by unfold nxt; rw [if_pos h3]; omega, wlk_ge (Nat.le_refl _)]
theorem wlk_at {p : Nat → Bool} {a f : Nat} (hf : f ≤ a) (h : ¬ a < wlk p a f) : wlk p a f = a := by
  rcases wlk_cases (p := p) (i := a) (a - f) f hf (by omega) with e | ⟨e, _⟩
  · exact e
  · omega
theorem wlk_le {p : Nat → Bool} {a f : Nat} (hf : f ≤ a) : a ≤ wlk p a f := by
  rcases wlk_cases (p := p) (i := a) (a - f) f hf (by omega) with e | ⟨e, _⟩ <;> omega

end Go.Proofs.Qxb6609257a
