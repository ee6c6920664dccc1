/-
  A look-up in the map of actions, and a store of a new key.
-/
import Derived.Test.Qxb6606306aRRMap
namespace Go.Proofs.Qxb6606306aRR
open Go.RowKit
set_option linter.unusedVariables false
set_option linter.unusedSimpArgs false

theorem beq_bytes (a b : ByteArray) : (a == b) = true ↔ a = b := by
  rw [beq_toListBytes, ByteArray.toList_eq, ByteArray.toList_eq, beq_iff_eq]
  constructor
  · intro h
    obtain ⟨⟨x⟩⟩ := a
    obtain ⟨⟨y⟩⟩ := b
    simpa using h
  · rintro rfl; rfl
theorem beq_refl (a : ByteArray) : (a == a) = true := (beq_bytes a a).2 rfl
theorem beq_no {a b : ByteArray} (h : a ≠ b) : (a == b) = false := by
  cases hx : (a == b) with
  | false => rfl
  | true => exact absurd ((beq_bytes a b).1 hx) h
theorem check83 (x : Bool) (v g r : ByteArray) (b : Bool) (w : World) : (Instr.checkKey x 10000 83 (actKey v g r b)).run Try.prog w = .ok () w := by kernel_rfl
theorem zero88 (w : World) : (zeroValue 88).run Try.prog w = .ok heldNo w := by kernel_rfl

/-- The map in block M holds just the actions of the verb v and the group g on the resources rs, with any subresource, each on every object. -/
def Acts (w : World) (M : Nat) (v g : ByteArray) (rs : List ByteArray) : Prop :=
  ∃ es clock, w.heap[M]? = some (.map es clock) ∧ (∀ e ∈ es.toList, ∃ r, r ∈ rs ∧ e.key = actKey v g r true ∧ e.val = heldAll) ∧ (∀ r, r ∈ rs → ∃ e, e ∈ es.toList ∧ e.key = actKey v g r true)

theorem find_yes (v g r : ByteArray) (w : World) : ∀ (l : List MapEntry) (i : Nat), (∀ e ∈ l, ∃ r', e.key = actKey v g r' true ∧ e.val = heldAll) → (∃ e, e ∈ l ∧ e.key = actKey v g r true) →
    ∃ j, (Instr.findAsking 83 (actKey v g r true) l i).run Try.prog w = .ok (some (j, heldAll)) w
  | [], i, _, h => by obtain ⟨e, he, _⟩ := h; simp at he
  | e :: l, i, hall, h => by
    obtain ⟨r', hk, hv⟩ := hall e (List.mem_cons_self ..)
    by_cases hr : r = r'
    · subst hr
      exact ⟨i, by simp [Instr.findAsking, hk, hv, equal83, beq_refl]⟩
    · obtain ⟨e', he', hk'⟩ := h
      rcases List.mem_cons.1 he' with rfl | he'
      · exfalso; apply hr; rw [hk] at hk'; simp [actKey] at hk'; exact hk'.symm
      · obtain ⟨j, hj⟩ := find_yes v g r w l (i + 1) (fun x hx => hall x (List.mem_cons_of_mem _ hx)) ⟨e', he', hk'⟩
        exact ⟨j, by simp [Instr.findAsking, hk, equal83, beq_no hr, hj]⟩

theorem find_no (v g v0 g0 r0 : ByteArray) (b0 : Bool) (w : World) : ∀ (l : List MapEntry) (i : Nat), (∀ e ∈ l, ∃ r', e.key = actKey v g r' true ∧ ¬ (v0 = v ∧ g0 = g ∧ r0 = r' ∧ b0 = true)) →
    (Instr.findAsking 83 (actKey v0 g0 r0 b0) l i).run Try.prog w = .ok none w
  | [], i, _ => by simp [Instr.findAsking]
  | e :: l, i, hall => by
    obtain ⟨r', hk, hn⟩ := hall e (List.mem_cons_self ..)
    have ih := find_no v g v0 g0 r0 b0 w l (i + 1) (fun x hx => hall x (List.mem_cons_of_mem _ hx))
    have hf : (v0 == v && g0 == g && r0 == r' && b0 == true) = false := by
      cases hx : (v0 == v && g0 == g && r0 == r' && b0 == true) with
      | false => rfl
      | true => exfalso; apply hn; simpa [and_assoc, beq_bytes] using hx
    simp only [Instr.findAsking, hk, Sem.run_bind, equal83, hf, Result.andThen_ok, Sem.run_ite, Bool.false_eq_true, if_false]
    exact ih

theorem findKey_of (k : Value) (l : List MapEntry) (w : World) (r : Option (Nat × Value)) (h : (Instr.findAsking 83 k l 0).run Try.prog w = .ok r w) : (Instr.findKey 83 k l).run Try.prog w = .ok r w := by
  simp only [Instr.findKey, Sem.run_bind, run_underlying Try.underlying83, Result.andThen_ok]
  cases l with
  | nil => simpa [Instr.findNow, Instr.findAsking] using h
  | cons e l => simpa [Instr.findNow, Instr.sameNow] using h

theorem look_yes {w : World} {M : Nat} {v g r : ByteArray} {rs : List ByteArray} (h : Acts w M v g rs) (hr : r ∈ rs) : (Instr.lookup 67 (.map (some M)) (actKey v g r true) false).run Try.prog w = .ok heldAll w := by
  obtain ⟨es, clock, hb, h1, h2⟩ := h
  obtain ⟨j, hj⟩ := find_yes v g r w es.toList 0 (fun e he => by obtain ⟨r', _, a, b⟩ := h1 e he; exact ⟨r', a, b⟩) (h2 r hr)
  have hf := findKey_of _ _ _ _ hj
  simp [Instr.lookup, run_underlying Try.underlying67, MapKept.run_getObj_map hb, check83, hf]

theorem look_no {w : World} {M : Nat} {v g v0 g0 r0 : ByteArray} {b0 : Bool} {rs : List ByteArray} (h : Acts w M v g rs) (hr : ¬ (v0 = v ∧ g0 = g ∧ r0 ∈ rs ∧ b0 = true)) : (Instr.lookup 67 (.map (some M)) (actKey v0 g0 r0 b0) false).run Try.prog w = .ok heldNo w := by
  obtain ⟨es, clock, hb, h1, h2⟩ := h
  have hf := findKey_of _ _ _ _ (find_no v g v0 g0 r0 b0 w es.toList 0 (fun e he => by obtain ⟨r', hr', a, _⟩ := h1 e he; exact ⟨r', a, fun ⟨x1, x2, x3, x4⟩ => hr ⟨x1, x2, x3 ▸ hr', x4⟩⟩))
  simp [Instr.lookup, run_underlying Try.underlying67, MapKept.run_getObj_map hb, check83, hf, zero88, heldNo]

/-- A new key is stored. -/
theorem store_new {w : World} {M : Nat} {v g r : ByteArray} {rs : List ByteArray} (h : Acts w M v g rs) (hr : r ∉ rs) :
    ∃ w', (Instr.mapUpdate 67 (.map (some M)) (actKey v g r true) heldAll).run Try.prog w = .ok () w' ∧ Acts w' M v g (r :: rs) ∧ w.grownBy w' (some M) ∧ w'.heap.size = w.heap.size := by
  obtain ⟨es, clock, hb, h1, h2⟩ := h
  have hf := findKey_of _ _ _ _ (find_no v g v g r true w es.toList 0 (fun e he => by obtain ⟨r', hr', a, _⟩ := h1 e he; exact ⟨r', a, fun ⟨_, _, x3, _⟩ => hr (x3 ▸ hr')⟩))
  have hM : M < w.heap.size := (Array.getElem?_eq_some_iff.1 hb).1
  refine ⟨ChangeMaps.setBlock w M (.map (es.push { key := actKey v g r true, val := heldAll, born := clock }) (clock + 1)), ?_, ⟨es.push { key := actKey v g r true, val := heldAll, born := clock }, clock + 1, by simp [ChangeMaps.setBlock, hM], ?_, ?_⟩, ⟨rfl, rfl, rfl, by simp [ChangeMaps.setBlock], ?_⟩, by simp [ChangeMaps.setBlock]⟩
  · simp [Instr.mapUpdate, run_underlying Try.underlying67, MapKept.run_getObj_map hb, check83, hf, MapKept.run_setObj_map _ hb, Result.andThen, ChangeMaps.setBlock]
  · intro e he
    simp at he
    rcases he with he | rfl
    · obtain ⟨r', a, b, c⟩ := h1 e (by simpa using he); exact ⟨r', by simp [a], b, c⟩
    · exact ⟨r, by simp, rfl, rfl⟩
  · intro r' hr'
    rcases List.mem_cons.1 hr' with rfl | hr'
    · exact ⟨_, by simp; exact .inr rfl, rfl⟩
    · obtain ⟨e, a, b⟩ := h2 r' hr'; exact ⟨e, by simp at a ⊢; exact .inl a, b⟩
  · intro k hk hne
    simp [ChangeMaps.setBlock, Array.getElem?_setIfInBounds]
    intro e
    exact absurd (by rw [e]) hne

theorem Acts.kept {w w' : World} {M : Nat} {v g : ByteArray} {rs : List ByteArray} (h : Acts w M v g rs) (hb : w'.heap[M]? = w.heap[M]?) : Acts w' M v g rs := by
  obtain ⟨es, clock, a, b⟩ := h
  exact ⟨es, clock, hb.trans a, b⟩
theorem Acts.lt {w : World} {M : Nat} {v g : ByteArray} {rs : List ByteArray} (h : Acts w M v g rs) : M < w.heap.size := by
  obtain ⟨es, clock, a, b⟩ := h
  exact (Array.getElem?_eq_some_iff.1 a).1
theorem acts_new (w : World) (v g : ByteArray) : Acts (w.alloc (.map #[] 0)) w.heap.size v g [] := ⟨#[], 0, heap_alloc_new w _, by simp, by simp⟩

end Go.Proofs.Qxb6606306aRR
