/-
  The laws' shared walk: the text copied, the charset made.
-/
import Derived.Test.Qxb6609257aModel
import Derived.Laws.CopyOwn
import Derived.Lib.SliceRun
namespace Go.Proofs.Qxb6609257a
open Go.RowKit
set_option linter.unusedVariables false
set_option linter.unusedSimpArgs false

theorem Try.info5 : (Try.prog.info? 5).map (fun i => (i.zero, i.size, i.bytes)) = some (some (.int .u8 0), 1, 1) := by kernel_rfl

theorem take_cells {w w1 : World} {x : Addr} {zs : List Int} {n : Nat} (hg : w.grownBy w1 none) (hnz : n ≤ zs.length) (hcell : ∀ i, i < zs.length → w.cell? (x.add i) = some (.int .u8 (zs.getD i 0))) :
    ∀ j v, ((zs.take n).map (Value.int .u8))[j]? = some v → w1.cell? (x.add j) = some v := by
  intro j v hj
  rw [List.getElem?_map, Option.map_eq_some_iff] at hj
  obtain ⟨y, hy, rfl⟩ := hj
  rw [List.getElem?_take] at hy
  split at hy
  · have hjl : j < zs.length := by omega
    refine hg.cell ?_ (by simp)
    rw [hcell j hjl, List.getD_eq_getElem?_getD, hy]
    rfl
  · cases hy

/-- The bytes of the numbers. -/
def tOf (zs : List Int) (k : Nat) : Nat := (zs.getD k 0).toNat
theorem tOf_lt {zs : List Int} (h : ∀ z ∈ zs, 0 ≤ z ∧ z ≤ 255) (k : Nat) : tOf zs k < 256 := by
  unfold tOf
  rw [List.getD_eq_getElem?_getD]
  by_cases hk : k < zs.length
  · have := h zs[k] (List.getElem_mem _)
    simp [hk]; omega
  · simp [hk]
theorem tOf_cast {zs : List Int} (h : ∀ z ∈ zs, 0 ≤ z ∧ z ≤ 255) (k : Nat) : (tOf zs k : Int) = zs.getD k 0 := by
  unfold tOf
  rw [List.getD_eq_getElem?_getD]
  by_cases hk : k < zs.length
  · have := h zs[k] (List.getElem_mem _)
    simp [hk]; omega
  · simp [hk]

theorem txt_setRow {w1 : World} {T n : Nat} {cur : Array Value} {e : TypeId} {zs : List Int} (hnz : n ≤ zs.length) (h : ∀ z ∈ zs, 0 ≤ z ∧ z ≤ 255) (hg : w1.heap[T]? = some (.cells cur e (0, 0))) :
    ∀ j, j < n → (w1.setRow T ((zs.map (Value.int .u8)).take n ++ cur.toList.drop n).toArray).cell? ⟨T, j, none⟩ = some (.int .u8 (tOf zs j : Int)) := by
  intro j hj
  rw [cell_of_row _ T j _ e (0, 0) (setRow_heap w1 T cur _ e _ hg), tOf_cast h]
  have hjl : j < zs.length := by omega
  simp [hj, hjl, List.getElem?_append, Nat.min_eq_left hnz]

/-- What the charset's block reads as. -/
theorem Chs.mem {w : World} {T n : Nat} {t : Nat → Nat} {cs : Option Addr} {has : Bool} {ld tr : Nat → Bool} {F S : Array Value} (htx : ∀ k, k < n → w.cell? ⟨T, k, none⟩ = some (.int .u8 (t k : Int))) (hby : ∀ k, t k < 256) (hF : Tab F ld) (hS : Tab S tr) (h : Chs w cs has F S) : Mem w T n t cs has ld tr := by
  refine ⟨htx, hby, ?_⟩
  rcases h with h | ⟨h1, g, h2, h3⟩
  · exact .inl h
  · refine .inr ⟨h1, g, h2, fun k hk => ?_, fun k hk => ?_⟩
    · rw [cell_of_row _ g _ _ 33 (0, 0) h3, chs_lead hF.1 hS.1 hk]; exact hF.2 k hk
    · rw [cell_of_row _ g _ _ 33 (0, 0) h3, chs_trail hF.1 hS.1 hk]; exact hS.2 k hk

end Go.Proofs.Qxb6609257a
