/-
  'Grew' step by step; the cells of bytes and of numbers.
-/
import Derived.Test.Qxb6606428aOwn
namespace Go.Proofs.Qxb6606428a
open Go.RowKit

def bcells (l : List UInt8) : List Value := l.map fun b => Value.int .u8 b.toNat
def icells (l : List Int) : List Value := l.map (Value.int .i64)
theorem bcells_len (l : List UInt8) : (bcells l).length = l.length := by simp [bcells]
theorem icells_len (l : List Int) : (icells l).length = l.length := by simp [icells]
theorem bcells_app (l m : List UInt8) : bcells (l ++ m) = bcells l ++ bcells m := by simp [bcells]
theorem icells_app (l m : List Int) : icells (l ++ m) = icells l ++ icells m := by simp [icells]
theorem strCells_eq (s : ByteArray) : Lib.strCells s = bcells s.data.toList := rfl

theorem own_below {w w' : World} {b : Nat} {e : TypeId} {size : Nat} {v : Value} {n : Nat} {xs : List Value} (h : w.ownsRow b e size v n xs) (hb : Below w.heap.size w w') : w'.ownsRow b e size v n xs := by
  refine ⟨h.1, ?_⟩
  rcases h.2 with h | ⟨g, cap, cur, hv, hg, hh, r⟩
  · exact .inl h
  · exact .inr ⟨g, cap, cur, hv, hg, by rw [hb.block g (Array.getElem?_eq_some_iff.1 hh).1]; exact hh, r⟩

theorem grown_pre {w w2 w1 : World} {row : Option Nat} (h : Below w.heap.size w w2) (g : w2.grownBy w1 row) : w.grownBy w1 row :=
  ⟨g.os.trans h.os, g.tape.trans h.tape, g.output.trans h.output, Nat.le_trans h.size g.size, fun k hk hne => (g.block k (Nat.lt_of_lt_of_le hk h.size) hne).trans (h.block k hk)⟩
theorem grown_post {w w2 w1 : World} {row : Option Nat} (g : w.grownBy w1 row) (h : Below w1.heap.size w1 w2) : w.grownBy w2 row :=
  ⟨h.os.trans g.os, h.tape.trans g.tape, h.output.trans g.output, Nat.le_trans g.size h.size, fun k hk hne => (h.block k (Nat.lt_of_lt_of_le hk g.size)).trans (g.block k hk hne)⟩

section
variable {w w0 w1 w2 : World} {B : Nat} {e : TypeId} {v v1 v2 : Value} {n n1 n2 : Nat} {xs xs1 xs2 : List Value}

theorem Grew.refl (h : w.ownsRow B e 1 v n xs) : Grew w w B e v n v n xs :=
  ⟨h, fun _ _ _ _ _ h0 _ => h0, World.grownBy.refl _ _, fun _ hk => .inl hk, fun k hk => (h.lt k hk).1⟩

theorem Grew.pre (hb : Below w.heap.size w w0) (h : Grew w0 w1 B e v n v1 n1 xs1) : Grew w w1 B e v n v1 n1 xs1 :=
  ⟨h.own, fun b0 e0 v0 n0 xs0 h0 hn => h.keep b0 e0 v0 n0 xs0 (own_below h0 hb) hn, grown_pre hb h.grown, fun k hk => (h.lies k hk).elim .inl (fun x => .inr (Nat.le_trans hb.size x)), h.from_⟩

theorem Grew.post (h : Grew w w1 B e v n v1 n1 xs1) (hb : Below w1.heap.size w1 w2) : Grew w w2 B e v n v1 n1 xs1 :=
  ⟨own_below h.own hb, fun b0 e0 v0 n0 xs0 h0 hn => own_below (h.keep b0 e0 v0 n0 xs0 h0 hn) hb, grown_post h.grown hb, h.lies, h.from_⟩

theorem Grew.trans (h : Grew w w1 B e v n v1 n1 xs1) (g : Grew w1 w2 B e v1 n1 v2 n2 xs2) (hn : n ≤ n1) : Grew w w2 B e v n v2 n2 xs2 := by
  refine ⟨g.own, fun b0 e0 v0 n0 xs0 h0 hc => ?_, ?_, fun k hk => ?_, h.from_⟩
  · refine g.keep b0 e0 v0 n0 xs0 (h.keep b0 e0 v0 n0 xs0 h0 hc) fun heq => ?_
    cases hv : v0.ownBlock with
    | none =>
      rcases h0.2 with ⟨_, r⟩ | ⟨g0, cap0, cur0, rfl, _⟩
      · omega
      · simp [Value.ownBlock] at hv
    | some k =>
      have hlt := (h0.lt k hv).2
      rw [hv] at heq
      rcases h.lies k heq.symm with e1 | e1
      · have := hc (by rw [hv, e1]); omega
      · omega
  · refine ⟨g.grown.os.trans h.grown.os, g.grown.tape.trans h.grown.tape, g.grown.output.trans h.grown.output, Nat.le_trans h.grown.size g.grown.size, fun k hk hne => ?_⟩
    rw [g.grown.block k (Nat.lt_of_lt_of_le hk h.grown.size) (fun e1 => ?_), h.grown.block k hk hne]
    rcases h.lies k e1.symm with e2 | e2
    · exact hne e2.symm
    · omega
  · rcases g.lies k hk with e1 | e1
    · exact h.lies k e1
    · have := h.grown.size; exact .inr (by omega)

/-- The slice cut back to its old length. -/
theorem Grew.cut {g m cap : Nat} {ys : List Value} (h : Grew w w1 B e v n (.slice (some ⟨g, 0, none⟩) (n + m) cap) (n + m) (xs ++ ys)) (hx : xs.length = n) : Grew w w1 B e v n (.slice (some ⟨g, 0, none⟩) n cap) n xs :=
  ⟨shorter h.own hx, h.keep, h.grown, h.lies, h.from_⟩
end

/-- Rows of different element types lie in different blocks. -/
theorem apart_types {w : World} {b b0 : Nat} {e e0 : TypeId} {v v0 : Value} {n n0 : Nat} {xs xs0 : List Value} (h : w.ownsRow b e 1 v n xs) (h0 : w.ownsRow b0 e0 1 v0 n0 xs0) (hne : e0 ≠ e) : v0.ownBlock = v.ownBlock → n0 ≤ n := by
  intro heq
  rcases h0.2 with ⟨_, r⟩ | ⟨g0, cap0, cur0, rfl, _, hg0, _⟩
  · omega
  · rcases h.2 with ⟨rfl, _⟩ | ⟨g, cap, cur, rfl, _, hg, _⟩
    · simp [Value.ownBlock] at heq
    · simp only [Value.ownBlock, Option.some.injEq] at heq
      subst heq
      rw [hg] at hg0
      simp only [Option.some.injEq, Obj.cells.injEq, and_true] at hg0
      exact absurd hg0.2.symm hne

/-- A block of another element type is none that an append writes. -/
theorem block_types {w : World} {b : Nat} {e e0 : TypeId} {v : Value} {n : Nat} {xs : List Value} {k : Nat} {cs : Array Value} {f : Nat × Nat} (h : w.ownsRow b e 1 v n xs) (hk : w.heap[k]? = some (.cells cs e0 f)) (hne : e0 ≠ e) : some k ≠ v.ownBlock := by
  intro heq
  rcases h.2 with ⟨rfl, _⟩ | ⟨g, cap, cur, rfl, _, hg, _⟩
  · simp [Value.ownBlock] at heq
  · simp only [Value.ownBlock, Option.some.injEq] at heq
    subst heq
    rw [hg] at hk
    simp only [Option.some.injEq, Obj.cells.injEq] at hk
    exact hne hk.2.1.symm

end Go.Proofs.Qxb6606428a
