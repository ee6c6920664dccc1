/-
  The contract of the copy of the text; the bound on its length; bytes.IndexByte.
-/
import Derived.Test.Qxb6605573aLeafA
import Derived.Laws.CopyOwn
import Derived.Lib.BytesEntry
import Derived.WalkLawsBesides
namespace Go.Proofs.Qxb6605573a
open Go.RowKit
set_option linter.unusedVariables false
set_option linter.unusedSimpArgs false

theorem Try.info5 : (Try.prog.info? 5).map (fun i => (i.zero, i.size, i.bytes)) = some (some (.int .u8 0), 1, 1) := by kernel_rfl

theorem bytes_any (a : Option Addr) (n c : Nat) (p : Int) (b : Bool) (sc i : Int) (w : World) (hn : n ≤ maxLen) :
    Calls Try.prog 11 #[.slice a n c, .int .i64 p, .bool b, .int .i64 sc, .int .i64 i] w fun e w' => e = .returned (.bool (decide (n ≤ 1048576))) ∧ w' = w := by
  unfold maxLen at hn
  by_cases h : n ≤ 1048576
  · go_enter Try.func11, Try.ntmps11
    go_wp2
    go_ret
    exact ⟨ret_bool (by simp [h]), rfl⟩
  · go_enter Try.func11, Try.ntmps11
    go_wp2
    go_ret
    exact ⟨ret_bool (by simp [h]), rfl⟩

theorem take_cells {w w1 : World} {x : Addr} {zs : List Int} {n : Nat} (hg : w.grownBy w1 none) (hnz : n ≤ zs.length) (hcell : ∀ i, i < zs.length → w.cell? (x.add i) = some (.int .u8 (zs.getD i 0))) :
    ∀ j v, ((zs.take n).map (Value.int .u8))[j]? = some v → w1.cell? (x.add j) = some v := by
  intro j v hj
  rw [List.getElem?_map, Option.map_eq_some_iff] at hj
  obtain ⟨y, hy, rfl⟩ := hj
  rw [List.getElem?_take] at hy
  split at hy
  · have hjl : j < zs.length := by omega
    refine hg.cell ?_ (by simp)
    rw [hcell j hjl, List.getD_eq_getElem?_getD, hy]
    rfl
  · cases hy

theorem txt_setRow {w1 : World} {T n : Nat} {cur : Array Value} {e : TypeId} {zs : List Int} (hnz : n ≤ zs.length) (hg : w1.heap[T]? = some (.cells cur e (0, 0))) :
    Txt (w1.setRow T ((zs.map (Value.int .u8)).take n ++ cur.toList.drop n).toArray) T n (fun j => zs.getD j 0) := by
  intro j hj
  rw [cell_of_row _ T j _ e (0, 0) (setRow_heap w1 T cur _ e _ hg)]
  have hjl : j < zs.length := by omega
  simp [hj, hjl, List.getElem?_append, Nat.min_eq_left hnz]

set_option maxHeartbeats 800000 in
theorem clone_any (x : Addr) (n c : Nat) (zs : List Int) (w : World) (hn : n ≤ 1048576) (hnz : n ≤ zs.length)
    (hcell : ∀ i, i < zs.length → w.cell? (x.add i) = some (.int .u8 (zs.getD i 0))) :
    Calls Try.prog 8 #[.slice (some x) n c] w fun e w' => e = .returned (.slice (some ⟨w.heap.size, 0, none⟩) n n) ∧ Txt w' w.heap.size n (fun j => zs.getD j 0) ∧ w.heap.size < w'.heap.size ∧ Below w.heap.size w w' := by
  obtain ⟨i0, hi, hz0, hz1, hz2⟩ := info_parts Try.info5
  have hnil := fun wx => Lib.run_eql_slice_nil (P := Try.prog) wx 22 5 (some x) n c 0 0 Try.underlying22
  have HC : Hid (∀ i, i < zs.length → w.cell? (x.add i) = some (.int .u8 (zs.getD i 0))) := hcell
  clear hcell
  go_enter Try.func8, Try.ntmps8
  go_wp2_with (at_make; refine wpList_make_full _ rfl _ _ 22 rfl w.heap.size 5 i0 (.int .u8 0) 1 Try.underlying22 hi hz0 hz1 _ _ _ _ n rfl rfl rfl rfl (by rw [hz2]; omega) (by unfold maxLen; omega) (Nat.le_refl _) ?_)
  intro w1 hown hgrow
  obtain ⟨cur, hg, hsz⟩ : ∃ cur : Array Value, w1.heap[w.heap.size]? = some (.cells cur 5 (0, 0)) ∧ n ≤ cur.size := by
    rcases hown.2 with ⟨h, _⟩ | ⟨g, cap, cur, hv, _, hh, hc1, _, hc2, _⟩
    · simp at h
    · simp at hv
      obtain ⟨rfl, rfl⟩ := hv
      exact ⟨cur, hh, by omega⟩
  have hlen : ((zs.take n).map (Value.int .u8)).length = n := by simp [Nat.min_eq_left hnz]
  have hsrc := take_cells (n := n) hgrow hnz HC.out
  have HH : Hid (w1.heap[w.heap.size]? = some (.cells cur 5 (0, 0)) ∧ w.grownBy w1 none) := ⟨hg, hgrow⟩
  have HS : Hid (((zs.take n).map (Value.int .u8)).length = n ∧ (∀ j v, ((zs.take n).map (Value.int .u8))[j]? = some v → w1.cell? (x.add j) = some v)) := ⟨hlen, hsrc⟩
  clear hg hgrow hown hsrc hlen
  go_wp2_with (refine wpList_copy_own rfl (.tmp 9) (.tmp 10) 22 22 rfl 5 Try.underlying22 (by simp [hi, hz1]) w.heap.size 0 n n x n c rfl rfl cur 5 HH.out.1 ((zs.take n).map (Value.int .u8)) (by rw [HS.out.1]; simp) HS.out.2 (by rw [HS.out.1]; omega) (ints_oneCell _ _) ?_)
  go_ret
  refine ⟨rfl, ?_, ?_, ?_⟩
  · exact txt_setRow hnz HH.out.1
  · have := HH.out.2.size
    have h2 := (Array.getElem?_eq_some_iff.1 HH.out.1).1
    simpa [World.setRow] using h2
  · exact below_setRow ((Below.refl _ _).grown HH.out.2 (Nat.le_refl _) (by simp)) (Nat.le_refl _) _

theorem indexByte_any (b o n c : Nat) (xs : List Int) (cv : Int) (w : World) (hx : xs.length = n)
    (hc : ∀ i, i < n → w.cell? ⟨b, o + i, none⟩ = some (.int .u8 (xs.getD i 0))) :
    Calls Try.prog 35 #[.slice (some ⟨b, o, none⟩) n c, .int .u8 cv] w fun e w' => e = .returned (.int .i64 (Lib.indexByte (Lib.bytesOf xs) cv.toNat.toUInt8)) ∧ w' = w := by
  go_enter Try.func35, Try.ntmps35
  go_wp2
  rw [run_callFunc_extern Try.func36 (by kernel_rfl) (by kernel_rfl) (by kernel_rfl) (e := Extern.BytealgIndexByte.indexByte) (by kernel_rfl), Lib.run_indexByteSlice w b o n c xs hx hc cv]
  simp only [Result.andThen]
  rw [Oper.upon_value]
  go_wp2
  go_ret
  exact ⟨rfl, rfl⟩

end Go.Proofs.Qxb6605573a
