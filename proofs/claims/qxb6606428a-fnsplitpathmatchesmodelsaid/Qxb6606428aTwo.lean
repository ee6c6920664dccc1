/-
  Two slices of different element types, each grown step by step.
-/
import Derived.Test.Qxb6606428aGrew
namespace Go.Proofs.Qxb6606428a
open Go.RowKit

structure Two (w w' : World) (B : Nat) (e : TypeId) (v : Value) (n : Nat) (v' : Value) (n' : Nat) (xs' : List Value) (f : TypeId) (u : Value) (m : Nat) (u' : Value) (m' : Nat) (ys' : List Value) : Prop where
  own1 : w'.ownsRow B e 1 v' n' xs'
  own2 : w'.ownsRow B f 1 u' m' ys'
  le1 : n ≤ n'
  le2 : m ≤ m'
  keep : ∀ (b0 : Nat) (e0 : TypeId) (v0 : Value) (n0 : Nat) (xs0 : List Value), w.ownsRow b0 e0 1 v0 n0 xs0 → (v0.ownBlock = v.ownBlock → n0 ≤ n) → (v0.ownBlock = u.ownBlock → n0 ≤ m) → w'.ownsRow b0 e0 1 v0 n0 xs0
  bel : Below B w w'
  lies1 : ∀ k, v'.ownBlock = some k → v.ownBlock = some k ∨ w.heap.size ≤ k
  lies2 : ∀ k, u'.ownBlock = some k → u.ownBlock = some k ∨ w.heap.size ≤ k
  other : ∀ k, k < w.heap.size → some k ≠ v.ownBlock → some k ≠ u.ownBlock → w'.heap[k]? = w.heap[k]?

section
variable {w w0 w1 w2 : World} {B : Nat} {e f : TypeId} {v v1 v2 u u1 u2 : Value} {n n1 n2 m m1 m2 : Nat} {xs xs1 xs2 ys ys1 ys2 : List Value}

theorem Two.swap (h : Two w w1 B e v n v1 n1 xs1 f u m u1 m1 ys1) : Two w w1 B f u m u1 m1 ys1 e v n v1 n1 xs1 :=
  ⟨h.own2, h.own1, h.le2, h.le1, fun b0 e0 v0 n0 xs0 h0 a b => h.keep b0 e0 v0 n0 xs0 h0 b a, h.bel, h.lies2, h.lies1, fun k hk a b => h.other k hk b a⟩

theorem Two.refl (h : w.ownsRow B e 1 v n xs) (g : w.ownsRow B f 1 u m ys) : Two w w B e v n v n xs f u m u m ys :=
  ⟨h, g, Nat.le_refl _, Nat.le_refl _, fun _ _ _ _ _ h0 _ _ => h0, Below.refl _ _, fun _ hk => .inl hk, fun _ hk => .inl hk, fun _ _ _ _ => rfl⟩

theorem Two.pre (hb : Below w0.heap.size w0 w) (hB : B ≤ w0.heap.size) (h : Two w w1 B e v n v1 n1 xs1 f u m u1 m1 ys1) : Two w0 w1 B e v n v1 n1 xs1 f u m u1 m1 ys1 :=
  ⟨h.own1, h.own2, h.le1, h.le2, fun b0 e0 v0 n0 xs0 h0 a b => h.keep b0 e0 v0 n0 xs0 (own_below h0 hb) a b, (hb.mono hB).trans h.bel, fun k hk => (h.lies1 k hk).elim .inl fun x => .inr (Nat.le_trans hb.size x), fun k hk => (h.lies2 k hk).elim .inl fun x => .inr (Nat.le_trans hb.size x), fun k hk a b => (h.other k (Nat.lt_of_lt_of_le hk hb.size) a b).trans (hb.block k hk)⟩

theorem Two.post (h : Two w w1 B e v n v1 n1 xs1 f u m u1 m1 ys1) (hb : Below w1.heap.size w1 w2) (hB : B ≤ w1.heap.size) : Two w w2 B e v n v1 n1 xs1 f u m u1 m1 ys1 :=
  ⟨own_below h.own1 hb, own_below h.own2 hb, h.le1, h.le2, fun b0 e0 v0 n0 xs0 h0 a b => own_below (h.keep b0 e0 v0 n0 xs0 h0 a b) hb, h.bel.trans (hb.mono hB), h.lies1, h.lies2, fun k hk a b => (hb.block k (Nat.lt_of_lt_of_le hk h.bel.size)).trans (h.other k hk a b)⟩

theorem none_zero (h0 : w.ownsRow B e 1 v n xs) (h : v.ownBlock = none) : n = 0 := by
  rcases h0.2 with ⟨_, r⟩ | ⟨g0, cap0, cur0, rfl, _⟩
  · exact r
  · simp [Value.ownBlock] at h

theorem Two.step1 (h : Two w w1 B e v n v1 n1 xs1 f u m u1 m1 ys1) (g : Grew w1 w2 B e v1 n1 v2 n2 xs2) (hn : n1 ≤ n2) (hef : f ≠ e) (hB : B ≤ w1.heap.size) : Two w w2 B e v n v2 n2 xs2 f u m u1 m1 ys1 := by
  refine ⟨g.own, g.keep _ _ _ _ _ h.own2 (apart_types h.own1 h.own2 hef), Nat.le_trans h.le1 hn, h.le2, fun b0 e0 v0 n0 xs0 h0 ha hb => ?_, g.below h.bel hB, fun k hk => ?_, h.lies2, fun k hk a b => ?_⟩
  · refine g.keep b0 e0 v0 n0 xs0 (h.keep b0 e0 v0 n0 xs0 h0 ha hb) fun heq => ?_
    cases hv : v0.ownBlock with
    | none => have := none_zero h0 hv; omega
    | some k =>
      have hlt := (h0.lt k hv).2
      rw [hv] at heq
      rcases h.lies1 k heq.symm with e1 | e1
      · have := ha (by rw [hv, e1]); have := h.le1; omega
      · omega
  · rcases g.lies k hk with e1 | e1
    · exact h.lies1 k e1
    · have := h.bel.size; exact .inr (by omega)
  · rw [g.grown.block k (Nat.lt_of_lt_of_le hk h.bel.size) (fun e1 => ?_), h.other k hk a b]
    rcases h.lies1 k e1.symm with e2 | e2
    · exact a e2.symm
    · omega

theorem Two.step2 (h : Two w w1 B e v n v1 n1 xs1 f u m u1 m1 ys1) (g : Grew w1 w2 B f u1 m1 u2 m2 ys2) (hn : m1 ≤ m2) (hef : e ≠ f) (hB : B ≤ w1.heap.size) : Two w w2 B e v n v1 n1 xs1 f u m u2 m2 ys2 := (h.swap.step1 g hn hef hB).swap

theorem own_block {b : Nat} {k : TypeId} {x : Value} {c : Nat} {zs : List Value} (h : w.ownsRow b k 1 x c zs) (hs : ∀ j, x.ownBlock = some j → w2.heap[j]? = w.heap[j]?) : w2.ownsRow b k 1 x c zs := by
  refine ⟨h.1, ?_⟩
  rcases h.2 with h | ⟨g, cap, cur, rfl, hg, hh, r⟩
  · exact .inl h
  · exact .inr ⟨g, cap, cur, rfl, hg, by rw [hs g rfl]; exact hh, r⟩

/-- A store to a block of the call's own that is no row's. -/
theorem Two.set (h : Two w w1 B e v n v1 n1 xs1 f u m u1 m1 ys1) {p : Addr} (hp : w.heap.size ≤ p.block) (hB : B ≤ w.heap.size) (h1 : some p.block ≠ v1.ownBlock) (h2 : some p.block ≠ u1.ownBlock) (x : Value) : Two w (w1.setCell p x) B e v n v1 n1 xs1 f u m u1 m1 ys1 := by
  have hh : ∀ k, k ≠ p.block → (w1.setCell p x).heap[k]? = w1.heap[k]? := fun k hk => Below.heap_setCell w1 p x k hk
  refine ⟨own_block h.own1 fun j hj => hh j fun e => h1 (by rw [hj, e]), own_block h.own2 fun j hj => hh j fun e => h2 (by rw [hj, e]), h.le1, h.le2, fun b0 e0 v0 n0 xs0 h0 ha hb => ?_, h.bel.setCell (by omega) x, h.lies1, h.lies2, fun k hk a b => ?_⟩
  · exact own_block (h.keep b0 e0 v0 n0 xs0 h0 ha hb) fun j hj => hh j (by have := (h0.lt j hj).2; omega)
  · rw [hh k (by omega), h.other k hk a b]

theorem Two.cell (h : Two w w1 B e v n v1 n1 xs1 f u m u1 m1 ys1) {k : Nat} (hk : k < w.heap.size) (a : some k ≠ v.ownBlock) (b : some k ≠ u.ownBlock) (j : Nat) : w1.cell? ⟨k, j, none⟩ = w.cell? ⟨k, j, none⟩ := World.cell?_of_block (w := w) (a := ⟨k, j, none⟩) (h.other k hk a b)
theorem Two.frozen (h : Two w w1 B e v n v1 n1 xs1 f u m u1 m1 ys1) {k : Nat} (hk : k < w.heap.size) (a : some k ≠ v.ownBlock) (b : some k ≠ u.ownBlock) (j : Nat) : w1.frozen? ⟨k, j, none⟩ = w.frozen? ⟨k, j, none⟩ := World.frozen?_of_block (w := w) (a := ⟨k, j, none⟩) (h.other k hk a b)
end

end Go.Proofs.Qxb6606428a
