/-
  Plain notions for FnEndIsEndOfValue: bytes as numbers, strings and nested values as a scanner passes them. Nothing of Go here.
-/
namespace Go.Proofs.Qxb6605573a

/-- white space of JSON -/
def isWS (c : Int) : Bool := c == 32 || c == 9 || c == 10 || c == 13
/-- what may follow a number or a literal -/
def isDelim (c : Int) : Bool := c == 44 || c == 125 || c == 93 || isWS c
def isHex (c : Int) : Bool := (decide (48 ≤ c) && decide (c ≤ 57)) || (decide (97 ≤ c) && decide (c ≤ 102)) || (decide (65 ≤ c) && decide (c ≤ 70))

/-- From place p inside a string the string ends just ahead of e: by k steps, a backslash taking the byte behind it along. -/
def Str (t : Nat → Int) (n : Nat) : Nat → Nat → Nat → Prop
  | 0, _, _ => False
  | k + 1, p, e => p < n ∧ ((t p = 34 ∧ e = p + 1) ∨ (t p = 92 ∧ Str t n k (p + 2) e) ∨ (t p ≠ 34 ∧ t p ≠ 92 ∧ Str t n k (p + 1) e))

/-- The scanner of brackets, at place i and depth d, comes to its end with the answer r, in at most k steps. -/
def Ret (t : Nat → Int) (n : Nat) : Nat → Nat → Nat → Nat → Prop
  | 0, _, _, _ => False
  | k + 1, i, d, r => i < n ∧
      ((t i = 34 ∧ ∃ m e, Str t n m (i + 1) e ∧ Ret t n k e d r) ∨
       ((t i = 123 ∨ t i = 91) ∧ Ret t n k (i + 1) (d + 1) r) ∨
       ((t i = 125 ∨ t i = 93) ∧ d = 1 ∧ r = i + 1) ∨
       ((t i = 125 ∨ t i = 93) ∧ 2 ≤ d ∧ Ret t n k (i + 1) (d - 1) r) ∨
       (t i ≠ 34 ∧ t i ≠ 123 ∧ t i ≠ 91 ∧ t i ≠ 125 ∧ t i ≠ 93 ∧ Ret t n k (i + 1) d r))

/-- The scanner passes from p to q at every depth from 1 on. -/
def Pass (t : Nat → Int) (n p q : Nat) : Prop := ∀ d r k, 1 ≤ d → Ret t n k q d r → ∃ k', Ret t n k' p d r

theorem Pass.refl (t : Nat → Int) (n p : Nat) : Pass t n p p := fun _ _ k _ h => ⟨k, h⟩
theorem Pass.trans {t : Nat → Int} {n p q r : Nat} (h : Pass t n p q) (g : Pass t n q r) : Pass t n p r := by
  intro d r' k hd hk
  obtain ⟨k1, h1⟩ := g d r' k hd hk
  exact h d r' k1 hd h1

theorem Pass.one {t : Nat → Int} {n p : Nat} (hp : p < n) (h1 : t p ≠ 34) (h2 : t p ≠ 123) (h3 : t p ≠ 91) (h4 : t p ≠ 125) (h5 : t p ≠ 93) : Pass t n p (p + 1) :=
  fun _ _ k _ h => ⟨k + 1, hp, .inr (.inr (.inr (.inr ⟨h1, h2, h3, h4, h5, h⟩)))⟩

theorem Pass.str {t : Nat → Int} {n p e m : Nat} (hp : p < n) (h1 : t p = 34) (hs : Str t n m (p + 1) e) : Pass t n p e :=
  fun _ _ k _ h => ⟨k + 1, hp, .inl ⟨h1, m, e, hs, h⟩⟩

/-- A run of bytes that are no quote and no bracket. -/
theorem Pass.run {t : Nat → Int} {n p : Nat} : ∀ m, p + m ≤ n → (∀ j, p ≤ j → j < p + m → t j ≠ 34 ∧ t j ≠ 123 ∧ t j ≠ 91 ∧ t j ≠ 125 ∧ t j ≠ 93) → Pass t n p (p + m)
  | 0, _, _ => Pass.refl t n p
  | m + 1, hn, h => by
    have g := h (p + m) (by omega) (by omega)
    exact (Pass.run m (by omega) fun j h1 h2 => h j h1 (by omega)).trans (Pass.one (by omega) g.1 g.2.1 g.2.2.1 g.2.2.2.1 g.2.2.2.2)

theorem Pass.run' {t : Nat → Int} {n p q : Nat} (hpq : p ≤ q) (hn : q ≤ n) (h : ∀ j, p ≤ j → j < q → t j ≠ 34 ∧ t j ≠ 123 ∧ t j ≠ 91 ∧ t j ≠ 125 ∧ t j ≠ 93) : Pass t n p q := by
  have := Pass.run (t := t) (n := n) (p := p) (q - p) (by omega) (fun j h1 h2 => h j h1 (by omega))
  rwa [show p + (q - p) = q by omega] at this

theorem ws_plain {c : Int} (h : isWS c = true) : c ≠ 34 ∧ c ≠ 123 ∧ c ≠ 91 ∧ c ≠ 125 ∧ c ≠ 93 := by
  simp [isWS] at h; omega

/-- White space is passed. -/
theorem Pass.ws {t : Nat → Int} {n p q : Nat} (hpq : p ≤ q) (hn : q ≤ n) (h : ∀ j, p ≤ j → j < q → isWS (t j) = true) : Pass t n p q :=
  Pass.run' hpq hn fun j h1 h2 => ws_plain (h j h1 h2)

/-- A bracket that opens at p, its inside passed to q, the bracket that closes at q: as a value inside another. -/
theorem Pass.nest {t : Nat → Int} {n p q : Nat} (hp : p < n) (ho : t p = 123 ∨ t p = 91) (hi : Pass t n (p + 1) q) (hq : q < n) (hc : t q = 125 ∨ t q = 93) : Pass t n p (q + 1) := by
  intro d r k hd h
  have h1 : Ret t n (k + 1) q (d + 1) r := ⟨hq, .inr (.inr (.inr (.inl ⟨hc, by omega, by simpa using h⟩)))⟩
  obtain ⟨k', h2⟩ := hi (d + 1) r (k + 1) (by omega) h1
  exact ⟨k' + 1, hp, .inr (.inl ⟨ho, h2⟩)⟩

/-- The same as the outermost value: the scanner that begins at p answers q + 1. -/
theorem Ret.nest {t : Nat → Int} {n p q : Nat} (hp : p < n) (ho : t p = 123 ∨ t p = 91) (hi : Pass t n (p + 1) q) (hq : q < n) (hc : t q = 125 ∨ t q = 93) : ∃ k, Ret t n k p 0 (q + 1) := by
  have h1 : Ret t n 1 q 1 (q + 1) := ⟨hq, .inr (.inr (.inl ⟨hc, rfl, rfl⟩))⟩
  obtain ⟨k', h2⟩ := hi 1 (q + 1) 1 (by omega) h1
  exact ⟨k' + 1, hp, .inr (.inl ⟨ho, by simpa using h2⟩)⟩

theorem Str.bound {t : Nat → Int} {n : Nat} : ∀ {k p e : Nat}, Str t n k p e → p < e ∧ e ≤ n
  | 0, _, _, h => h.elim
  | k + 1, p, e, ⟨hp, h⟩ => by
    rcases h with ⟨_, rfl⟩ | ⟨_, h⟩ | ⟨_, _, h⟩
    · omega
    · have := Str.bound h; omega
    · have := Str.bound h; omega

/-- What a reader of values hands back when it answers r ≥ 0 for the value at p. -/
structure Val (t : Nat → Int) (n p r : Nat) : Prop where
  lt : p < r
  le : r ≤ n
  pass : Pass t n p r
  str : t p = 34 → ∃ k, Str t n k (p + 1) r
  nest : t p = 123 ∨ t p = 91 → ∃ k, Ret t n k p 0 r
  bare : t p ≠ 34 → t p ≠ 123 → t p ≠ 91 → ∀ j, p ≤ j → j < r → isDelim (t j) = false

theorem Val.ofStr {t : Nat → Int} {n p e k : Nat} (hp : p < n) (h1 : t p = 34) (hs : Str t n k (p + 1) e) : Val t n p e := by
  have hb := hs.bound
  exact ⟨by omega, hb.2, Pass.str hp h1 hs, fun _ => ⟨k, hs⟩, fun h => by omega, fun h => absurd h1 h⟩

theorem Val.ofNest {t : Nat → Int} {n p q : Nat} (hp : p < n) (ho : t p = 123 ∨ t p = 91) (hpq : p < q) (hi : Pass t n (p + 1) q) (hq : q < n) (hc : t q = 125 ∨ t q = 93) : Val t n p (q + 1) :=
  ⟨by omega, by omega, Pass.nest hp ho hi hq hc, fun h => by omega, fun _ => Ret.nest hp ho hi hq hc, fun _ h2 h3 => by omega⟩

/-- A byte of a number or of a literal: no quote, no bracket, no delimiter. -/
def isBare (c : Int) : Bool := c != 34 && c != 123 && c != 91 && !isDelim c

theorem Val.ofBare {t : Nat → Int} {n p r : Nat} (hpr : p < r) (hr : r ≤ n) (h : ∀ j, p ≤ j → j < r → isBare (t j) = true) : Val t n p r := by
  have g : ∀ j, p ≤ j → j < r → (t j ≠ 34 ∧ t j ≠ 123 ∧ t j ≠ 91 ∧ t j ≠ 125 ∧ t j ≠ 93) ∧ isDelim (t j) = false := by
    intro j h1 h2
    have := h j h1 h2
    simp [isBare, isDelim, isWS] at this ⊢
    omega
  have g0 := (g p (by omega) hpr).1
  exact ⟨hpr, hr, Pass.run' (by omega) hr fun j h1 h2 => (g j h1 h2).1, fun h => absurd h g0.1, fun h => by omega, fun _ _ _ j h1 h2 => (g j h1 h2).2⟩

end Go.Proofs.Qxb6605573a
