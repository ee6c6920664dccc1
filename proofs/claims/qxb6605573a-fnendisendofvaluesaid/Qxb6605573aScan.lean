/-
  The reader's own memory: the struct with the text, the two lists of numbers and the counter; what its steps leave of it.
-/
import Derived.Test.Qxb6605573aLeafC
import Derived.Test.Qxb6605573aOwn
import Derived.WalkSmall
import Derived.WalkSpells
namespace Go.Proofs.Qxb6605573a
open Go.RowKit
set_option linter.unusedVariables false
set_option linter.unusedSimpArgs false

/-- Block T: the text; block M: the reader; its two lists of numbers lie behind M, each in a block of its own. -/
structure Scan (w : World) (T n M : Nat) (t : Nat → Int) (a1 : Option Addr) (l1 c1 : Nat) (a2 : Option Addr) (l2 c2 : Nat) (ar : Int) : Prop where
  tM : T < M
  txt : Txt w T n t
  blk : w.heap[M]? = some (.cells #[.slice (some ⟨T, 0, none⟩) n n, .slice a1 l1 c1, .slice a2 l2 c2, .int .i64 ar] 30 (0, 0))
  own1 : ∃ x1 : List Int, w.ownsRow (M + 1) 3 1 (.slice a1 l1 c1) l1 (x1.map (Value.int .i64))
  own2 : ∃ x2 : List Int, w.ownsRow (M + 1) 3 1 (.slice a2 l2 c2) l2 (x2.map (Value.int .i64))
  apart : ∀ k, (Value.slice a1 l1 c1).ownBlock = some k → (Value.slice a2 l2 c2).ownBlock ≠ some k

theorem Txt.of_block {w w' : World} {T n : Nat} {t : Nat → Int} (h : Txt w T n t) (hb : w'.heap[T]? = w.heap[T]?) : Txt w' T n t :=
  fun j hj => (World.cell?_of_block (w := w) (a := ⟨T, j, none⟩) hb).trans (h j hj)

section
variable {w : World} {T n M : Nat} {t : Nat → Int} {a1 a2 : Option Addr} {l1 c1 l2 c2 : Nat} {ar : Int}

theorem Scan.lt (h : Scan w T n M t a1 l1 c1 a2 l2 c2 ar) : M < w.heap.size := (Array.getElem?_eq_some_iff.1 h.blk).1
theorem Scan.cell0 (h : Scan w T n M t a1 l1 c1 a2 l2 c2 ar) : w.cell? ⟨M, 0, none⟩ = some (.slice (some ⟨T, 0, none⟩) n n) := by
  rw [cell_of_row w M 0 _ 30 (0, 0) h.blk]; rfl
theorem Scan.cell1 (h : Scan w T n M t a1 l1 c1 a2 l2 c2 ar) : w.cell? ⟨M, 1, none⟩ = some (.slice a1 l1 c1) := by
  rw [cell_of_row w M 1 _ 30 (0, 0) h.blk]; rfl
theorem Scan.cell2 (h : Scan w T n M t a1 l1 c1 a2 l2 c2 ar) : w.cell? ⟨M, 2, none⟩ = some (.slice a2 l2 c2) := by
  rw [cell_of_row w M 2 _ 30 (0, 0) h.blk]; rfl
theorem Scan.cell3 (h : Scan w T n M t a1 l1 c1 a2 l2 c2 ar) : w.cell? ⟨M, 3, none⟩ = some (.int .i64 ar) := by
  rw [cell_of_row w M 3 _ 30 (0, 0) h.blk]; rfl
theorem Scan.free (h : Scan w T n M t a1 l1 c1 a2 l2 c2 ar) (j : Nat) : w.frozen? ⟨M, j, none⟩ = false := by
  simp [World.frozen?, h.blk]

/-- Nothing of the old blocks has turned. -/
theorem Scan.kept {w' : World} (h : Scan w T n M t a1 l1 c1 a2 l2 c2 ar) (hb : ∀ k, k < w.heap.size → w'.heap[k]? = w.heap[k]?) : Scan w' T n M t a1 l1 c1 a2 l2 c2 ar := by
  have hM := h.lt
  have hT := h.tM
  have keep : ∀ {v : Value} {l : Nat} {xs : List Value}, w.ownsRow (M + 1) 3 1 v l xs → w'.ownsRow (M + 1) 3 1 v l xs := by
    intro v l xs ho
    refine ⟨ho.1, ?_⟩
    rcases ho.2 with h | ⟨g, cap, cur, hv, hg, hh, r⟩
    · exact .inl h
    · exact .inr ⟨g, cap, cur, hv, hg, by rw [hb g (Array.getElem?_eq_some_iff.1 hh).1]; exact hh, r⟩
  obtain ⟨x1, o1⟩ := h.own1
  obtain ⟨x2, o2⟩ := h.own2
  exact ⟨hT, h.txt.of_block (hb T (by omega)), (hb M hM).trans h.blk, ⟨x1, keep o1⟩, ⟨x2, keep o2⟩, h.apart⟩

theorem Scan.alloc (h : Scan w T n M t a1 l1 c1 a2 l2 c2 ar) (o : Obj) : Scan (w.alloc o) T n M t a1 l1 c1 a2 l2 c2 ar :=
  h.kept fun k hk => Below.heap_alloc w o k hk
theorem Scan.drewN (h : Scan w T n M t a1 l1 c1 a2 l2 c2 ar) (q : Nat) : Scan (w.drewN q) T n M t a1 l1 c1 a2 l2 c2 ar :=
  h.kept fun k hk => rfl

theorem blk_set {w : World} {M : Nat} {cs : Array Value} {e : TypeId} (h : w.heap[M]? = some (.cells cs e (0, 0))) (i : Nat) (v : Value) :
    (w.setCell ⟨M, i, none⟩ v).heap[M]? = some (.cells (cs.setIfInBounds i v) e (0, 0)) := by
  simp [World.setCell, Array.getElem?_modify, h]

/-- The counter is raised. -/
theorem Scan.count (h : Scan w T n M t a1 l1 c1 a2 l2 c2 ar) (ar' : Int) : Scan (w.setCell ⟨M, 3, none⟩ (.int .i64 ar')) T n M t a1 l1 c1 a2 l2 c2 ar' := by
  obtain ⟨x1, o1⟩ := h.own1
  obtain ⟨x2, o2⟩ := h.own2
  have hT := h.tM
  refine ⟨hT, h.txt.of_block (Below.heap_setCell _ _ _ _ (by simp; omega)), ?_, ⟨x1, ownsRow_setCell_below o1 (by simp) _⟩, ⟨x2, ownsRow_setCell_below o2 (by simp) _⟩, h.apart⟩
  rw [blk_set h.blk]; rfl

/-- The first list has grown by one. -/
theorem Scan.push1 {w' : World} {a' : Option Addr} {c' : Nat} {y : Int} (h : Scan w T n M t a1 l1 c1 a2 l2 c2 ar) (x1 : List Int) (hg : w.grownBy w' (Value.slice a1 l1 c1).ownBlock)
    (ho : w'.ownsRow (M + 1) 3 1 (.slice a' (l1 + 1) c') (l1 + 1) (x1.map (Value.int .i64) ++ [.int .i64 y]))
    (hl : ∀ k, (Value.slice a' (l1 + 1) c').ownBlock = some k → (Value.slice a1 l1 c1).ownBlock = some k ∨ w.heap.size ≤ k) :
    Scan (w'.setCell ⟨M, 1, none⟩ (.slice a' (l1 + 1) c')) T n M t a' (l1 + 1) c' a2 l2 c2 ar := by
  have hM := h.lt
  have hT := h.tM
  obtain ⟨x1', o1⟩ := h.own1
  obtain ⟨x2, o2⟩ := h.own2
  have hne : ∀ k, k < M + 1 → some k ≠ (Value.slice a1 l1 c1).ownBlock := fun k hk e => by have := (o1.lt k e.symm).1; omega
  have o2' : w'.ownsRow (M + 1) 3 1 (.slice a2 l2 c2) l2 (x2.map (Value.int .i64)) := o2.kept hg (by
    cases e : (Value.slice a2 l2 c2).ownBlock with
    | none => exact .inl rfl
    | some k => exact .inr fun e' => h.apart k e'.symm e)
  refine ⟨hT, (h.txt.of_block (hg.block T (by omega) (hne T (by omega)))).of_block (Below.heap_setCell _ _ _ _ (by simp; omega)), ?_, ⟨x1 ++ [y], ?_⟩, ⟨x2, ownsRow_setCell_below o2' (by simp) _⟩, fun k e e' => ?_⟩
  · rw [blk_set ((hg.block M hM (hne M (by omega))).trans h.blk)]; rfl
  · rw [List.map_append]; exact ownsRow_setCell_below ho (by simp) _
  · rcases hl k e with e1 | e1
    · exact h.apart k e1 e'
    · have := (o2.lt k e').2; omega

/-- The second list has grown by one. -/
theorem Scan.push2 {w' : World} {a' : Option Addr} {c' : Nat} {y : Int} (h : Scan w T n M t a1 l1 c1 a2 l2 c2 ar) (x2 : List Int) (hg : w.grownBy w' (Value.slice a2 l2 c2).ownBlock)
    (ho : w'.ownsRow (M + 1) 3 1 (.slice a' (l2 + 1) c') (l2 + 1) (x2.map (Value.int .i64) ++ [.int .i64 y]))
    (hl : ∀ k, (Value.slice a' (l2 + 1) c').ownBlock = some k → (Value.slice a2 l2 c2).ownBlock = some k ∨ w.heap.size ≤ k) :
    Scan (w'.setCell ⟨M, 2, none⟩ (.slice a' (l2 + 1) c')) T n M t a1 l1 c1 a' (l2 + 1) c' ar := by
  have hM := h.lt
  have hT := h.tM
  obtain ⟨x1, o1⟩ := h.own1
  obtain ⟨x2', o2⟩ := h.own2
  have hne : ∀ k, k < M + 1 → some k ≠ (Value.slice a2 l2 c2).ownBlock := fun k hk e => by have := (o2.lt k e.symm).1; omega
  have o1' : w'.ownsRow (M + 1) 3 1 (.slice a1 l1 c1) l1 (x1.map (Value.int .i64)) := o1.kept hg (by
    cases e : (Value.slice a1 l1 c1).ownBlock with
    | none => exact .inl rfl
    | some k => exact .inr fun e' => h.apart k e e'.symm)
  refine ⟨hT, (h.txt.of_block (hg.block T (by omega) (hne T (by omega)))).of_block (Below.heap_setCell _ _ _ _ (by simp; omega)), ?_, ⟨x1, ownsRow_setCell_below o1' (by simp) _⟩, ⟨x2 ++ [y], ?_⟩, fun k e e' => ?_⟩
  · rw [blk_set ((hg.block M hM (hne M (by omega))).trans h.blk)]; rfl
  · rw [List.map_append]; exact ownsRow_setCell_below ho (by simp) _
  · rcases hl k e' with e1 | e1
    · exact h.apart k e e1
    · have := (o1.lt k e).2; omega

/-- A list's row may have been written, new blocks made: the reader's own block stands. -/
theorem Scan.own_block1 {w' : World} (h : Scan w T n M t a1 l1 c1 a2 l2 c2 ar) (hg : w.grownBy w' (Value.slice a1 l1 c1).ownBlock) : (∀ j, w'.cell? ⟨M, j, none⟩ = w.cell? ⟨M, j, none⟩) ∧ (∀ j, w'.frozen? ⟨M, j, none⟩ = w.frozen? ⟨M, j, none⟩) := by
  have hM := h.lt
  obtain ⟨x1, o1⟩ := h.own1
  have hb := hg.block M hM (fun e => by have := (o1.lt M e.symm).1; omega)
  exact ⟨fun j => World.cell?_of_block (a := ⟨M, j, none⟩) hb, fun j => World.frozen?_of_block (a := ⟨M, j, none⟩) hb⟩
theorem Scan.own_block2 {w' : World} (h : Scan w T n M t a1 l1 c1 a2 l2 c2 ar) (hg : w.grownBy w' (Value.slice a2 l2 c2).ownBlock) : (∀ j, w'.cell? ⟨M, j, none⟩ = w.cell? ⟨M, j, none⟩) ∧ (∀ j, w'.frozen? ⟨M, j, none⟩ = w.frozen? ⟨M, j, none⟩) := by
  have hM := h.lt
  obtain ⟨x2, o2⟩ := h.own2
  have hb := hg.block M hM (fun e => by have := (o2.lt M e.symm).1; omega)
  exact ⟨fun j => World.cell?_of_block (a := ⟨M, j, none⟩) hb, fun j => World.frozen?_of_block (a := ⟨M, j, none⟩) hb⟩

/-- Where the second list is not empty: its row, a cell of it, a store into it. -/
theorem Scan.row2 (h : Scan w T n M t a1 l1 c1 a2 l2 c2 ar) (k : Nat) (hk : k < l2) :
    ∃ g y, a2 = some ⟨g, 0, none⟩ ∧ M < g ∧ w.cell? ⟨g, k, none⟩ = some (.int .i64 y) ∧ w.frozen? ⟨g, k, none⟩ = false ∧ ∀ y', Scan (w.setCell ⟨g, k, none⟩ (.int .i64 y')) T n M t a1 l1 c1 a2 l2 c2 ar := by
  obtain ⟨x1, o1⟩ := h.own1
  obtain ⟨x2, o2⟩ := h.own2
  have hT := h.tM
  rcases o2.2 with ⟨_, h0⟩ | ⟨g, cap, cur, hv, hg, hh, hr⟩
  · omega
  · simp at hv
    obtain ⟨rfl, rfl⟩ := hv
    have hlen : x2.length = l2 := by simpa using o2.1
    refine ⟨g, x2[k], rfl, by omega, ?_, o2.frozenAt k, fun y' => ⟨hT, h.txt.of_block (Below.heap_setCell _ _ _ _ (by simp; omega)), ?_, ⟨x1, ownsRow_setCell_other o1 (fun e => h.apart g e rfl) _⟩, ⟨x2.set k y', ?_⟩, h.apart⟩⟩
    · rw [o2.cellAt k (by omega)]; simp [hlen, hk]
    · rw [Below.heap_setCell _ _ _ _ (by simp; omega)]; exact h.blk
    · have := (o2.stored k (.int .i64 y')).1
      rwa [List.map_set]
end

/-- The shape of a slice that owns something. -/
theorem own_shape {w : World} {b : Nat} {e : TypeId} {size : Nat} {v : Value} {l : Nat} {xs : List Value} (h : w.ownsRow b e size v (l + 1) xs) : ∃ g c, v = .slice (some ⟨g, 0, none⟩) (l + 1) c := by
  rcases h.2 with ⟨_, h0⟩ | ⟨g, cap, cur, hv, _⟩
  · omega
  · exact ⟨g, cap, hv⟩

/-- What the reader of values answers. -/
def ValRes (T n M : Nat) (t : Nat → Int) (p l : Nat) (r : Int) (w' : World) : Prop :=
  r = -1 ∨ ∃ q : Nat, r = q ∧ Val t n p q ∧ ∃ a1 c1 a2 c2 l' ar, Scan w' T n M t a1 l' c1 a2 l' c2 ar ∧ l ≤ l' ∧ l' ≤ q
def ValPost (T n M : Nat) (t : Nat → Int) (p l : Nat) (w : World) (e : Ending) (w' : World) : Prop :=
  ∃ r : Int, e = .returned (.int .i64 r) ∧ Below M w w' ∧ ValRes T n M t p l r w'
def ValueOK (T n M : Nat) (t : Nat → Int) (q : Nat) : Prop := ∀ (w : World) (a1 : Option Addr) (c1 : Nat) (a2 : Option Addr) (c2 l : Nat) (ar : Int), Scan w T n M t a1 l c1 a2 l c2 ar → l ≤ q →
  Calls Try.prog 13 #[.pointer (some ⟨M, 0, none⟩), .int .i64 q] w (ValPost T n M t q l w)

theorem ValPost.no {T n M : Nat} {t : Nat → Int} {p l : Nat} {w w' : World} (h : Below M w w') : ValPost T n M t p l w (.returned (.int .i64 (-1))) w' := ⟨-1, rfl, h, .inl rfl⟩
theorem ValPost.yes {T n M : Nat} {t : Nat → Int} {p l : Nat} {w w' : World} {r : Int} (q : Nat) (hr : r = q) (h : Below M w w') (hv : Val t n p q) {a1 : Option Addr} {c1 : Nat} {a2 : Option Addr} {c2 l' : Nat} {ar : Int}
    (hs : Scan w' T n M t a1 l' c1 a2 l' c2 ar) (h1 : l ≤ l') (h2 : l' ≤ q) : ValPost T n M t p l w (.returned (.int .i64 r)) w' := ⟨r, rfl, h, .inr ⟨q, hr, hv, a1, c1, a2, c2, l', ar, hs, h1, h2⟩⟩

theorem skipWS_at (T n : Nat) (t : Nat → Int) (pI : Int) (p : Nat) (w : World) (hp : pI = p) (hn : n ≤ 1048576) (hpn : p ≤ n) (htx : Txt w T n t) :
    Calls Try.prog 23 #[.slice (some ⟨T, 0, none⟩) n n, .int .i64 pI] w fun e w' => ∃ q : Nat, e = .returned (.int .i64 q) ∧ p ≤ q ∧ q ≤ n ∧ (∀ j, p ≤ j → j < q → isWS (t j) = true) ∧ w' = w := by
  subst hp; exact skipWS_any T n t p w hn hpn htx

end Go.Proofs.Qxb6605573a
