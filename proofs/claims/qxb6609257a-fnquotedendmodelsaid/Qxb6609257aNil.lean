/-
  The laws at a nil slice.
-/
import Derived.Test.Qxb6609257aLaw
import Derived.Test.Qxb6609257aLeafB
namespace Go.Proofs.Qxb6609257a
open Go.RowKit
set_option linter.unusedVariables false
set_option linter.unusedSimpArgs false

set_option maxRecDepth 100000 in
set_option maxHeartbeats 3200000 in
theorem nil3_any (i : Int) (b1 b2 : Bool) (F S : Array Value) (w : World) (hFs : F.size = 256) (hSs : S.size = 256) (hib : -9223372036854775808 ≤ i ∧ i ≤ 9223372036854775807) :
    Calls Try.prog 3 #[.slice none 0 0, .int .i64 i, .bool b1, .bool b2, .agg F, .agg S] w (TruePost w) := by
  have HX1 : Hid (Box ((w.alloc (Obj.cells F 23)).alloc (Obj.cells S 23)) w.heap.size F ∧ Box ((w.alloc (Obj.cells F 23)).alloc (Obj.cells S 23)) (w.heap.size + 1) S ∧ Below w.heap.size w ((w.alloc (Obj.cells F 23)).alloc (Obj.cells S 23))) := by
    refine ⟨(box_new w F).alloc _, ?_, ((Below.refl _ _).alloc (Nat.le_refl _) _).alloc (by simp) _⟩
    have := box_new (w.alloc (Obj.cells F 23)) S
    rwa [show (w.alloc (Obj.cells F 23)).heap.size = w.heap.size + 1 by simp] at this
  go_enter Try.func3, Try.ntmps3
  go_wp2_with (first
    | (refine wpList_load_arr rfl (.tmp 10) rfl w.heap.size rfl F ?_ hFs ?_; exact HX1.out.1)
    | (refine wpList_load_arr rfl (.tmp 11) rfl (w.heap.size + 1) rfl S ?_ hSs ?_; exact HX1.out.2.1))
  refine (bytes7_any none 0 0 i b1 b2 F S _ (by omega) hFs hSs).mono ?_
  rintro e w1 ⟨b, rfl, hb1⟩
  have H1 : Hid (Box w1 w.heap.size F ∧ Box w1 (w.heap.size + 1) S ∧ Below w.heap.size w w1) := ⟨HX1.out.1.below hb1, HX1.out.2.1.below hb1, HX1.out.2.2.trans (hb1.mono HX1.out.2.2.size)⟩
  clear hb1 HX1
  cases b
  · go_wp2_with fail
    go_ret
    exact ⟨rfl, H1.out.2.2⟩
  by_cases t2 : i < 0
  · go_wp2_with fail
    go_ret
    exact ⟨rfl, H1.out.2.2⟩
  have t3 : (0 : Int) ≤ i := by omega
  go_wp2_with fail
  go_ret
  exact ⟨rfl, H1.out.2.2⟩

set_option maxRecDepth 100000 in
set_option maxHeartbeats 3200000 in
theorem nil5_any (i : Int) (b1 b2 : Bool) (F S : Array Value) (w : World) (hFs : F.size = 256) (hSs : S.size = 256) (hib : -9223372036854775808 ≤ i ∧ i ≤ 9223372036854775807) :
    Calls Try.prog 5 #[.slice none 0 0, .int .i64 i, .bool b1, .bool b2, .agg F, .agg S] w (TruePost w) := by
  have HX1 : Hid (Box ((w.alloc (Obj.cells F 23)).alloc (Obj.cells S 23)) w.heap.size F ∧ Box ((w.alloc (Obj.cells F 23)).alloc (Obj.cells S 23)) (w.heap.size + 1) S ∧ Below w.heap.size w ((w.alloc (Obj.cells F 23)).alloc (Obj.cells S 23))) := by
    refine ⟨(box_new w F).alloc _, ?_, ((Below.refl _ _).alloc (Nat.le_refl _) _).alloc (by simp) _⟩
    have := box_new (w.alloc (Obj.cells F 23)) S
    rwa [show (w.alloc (Obj.cells F 23)).heap.size = w.heap.size + 1 by simp] at this
  go_enter Try.func5, Try.ntmps5
  go_wp2_with (first
    | (refine wpList_load_arr rfl (.tmp 10) rfl w.heap.size rfl F ?_ hFs ?_; exact HX1.out.1)
    | (refine wpList_load_arr rfl (.tmp 11) rfl (w.heap.size + 1) rfl S ?_ hSs ?_; exact HX1.out.2.1))
  refine (bytes12_any none 0 0 i b1 b2 F S _ (by omega) hFs hSs).mono ?_
  rintro e w1 ⟨b, rfl, hb1⟩
  have H1 : Hid (Box w1 w.heap.size F ∧ Box w1 (w.heap.size + 1) S ∧ Below w.heap.size w w1) := ⟨HX1.out.1.below hb1, HX1.out.2.1.below hb1, HX1.out.2.2.trans (hb1.mono HX1.out.2.2.size)⟩
  clear hb1 HX1
  cases b
  · go_wp2_with fail
    go_ret
    exact ⟨rfl, H1.out.2.2⟩
  by_cases t2 : i < 0
  · go_wp2_with fail
    go_ret
    exact ⟨rfl, H1.out.2.2⟩
  have t3 : (0 : Int) ≤ i := by omega
  go_wp2_with fail
  go_ret
  exact ⟨rfl, H1.out.2.2⟩

set_option maxRecDepth 100000 in
set_option maxHeartbeats 3200000 in
theorem nil6_any (i : Int) (b1 b2 : Bool) (F S : Array Value) (w : World) (hFs : F.size = 256) (hSs : S.size = 256) (hib : -9223372036854775808 ≤ i ∧ i ≤ 9223372036854775807) :
    Calls Try.prog 6 #[.slice none 0 0, .int .i64 i, .bool b1, .bool b2, .agg F, .agg S] w (TruePost w) := by
  have HX1 : Hid (Box ((w.alloc (Obj.cells F 23)).alloc (Obj.cells S 23)) w.heap.size F ∧ Box ((w.alloc (Obj.cells F 23)).alloc (Obj.cells S 23)) (w.heap.size + 1) S ∧ Below w.heap.size w ((w.alloc (Obj.cells F 23)).alloc (Obj.cells S 23))) := by
    refine ⟨(box_new w F).alloc _, ?_, ((Below.refl _ _).alloc (Nat.le_refl _) _).alloc (by simp) _⟩
    have := box_new (w.alloc (Obj.cells F 23)) S
    rwa [show (w.alloc (Obj.cells F 23)).heap.size = w.heap.size + 1 by simp] at this
  go_enter Try.func6, Try.ntmps6
  go_wp2_with (first
    | (refine wpList_load_arr rfl (.tmp 10) rfl w.heap.size rfl F ?_ hFs ?_; exact HX1.out.1)
    | (refine wpList_load_arr rfl (.tmp 11) rfl (w.heap.size + 1) rfl S ?_ hSs ?_; exact HX1.out.2.1))
  refine (bytes14_any none 0 0 i b1 b2 F S _ (by omega) hFs hSs).mono ?_
  rintro e w1 ⟨b, rfl, hb1⟩
  have H1 : Hid (Box w1 w.heap.size F ∧ Box w1 (w.heap.size + 1) S ∧ Below w.heap.size w w1) := ⟨HX1.out.1.below hb1, HX1.out.2.1.below hb1, HX1.out.2.2.trans (hb1.mono HX1.out.2.2.size)⟩
  clear hb1 HX1
  cases b
  · go_wp2_with fail
    go_ret
    exact ⟨rfl, H1.out.2.2⟩
  by_cases t2 : i < 0
  · go_wp2_with fail
    go_ret
    exact ⟨rfl, H1.out.2.2⟩
  have t3 : (0 : Int) ≤ i := by omega
  go_wp2_with fail
  go_ret
  exact ⟨rfl, H1.out.2.2⟩

end Go.Proofs.Qxb6609257a
