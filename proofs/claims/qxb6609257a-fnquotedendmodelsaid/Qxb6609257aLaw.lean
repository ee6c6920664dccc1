/-
  FnNextQuoteEndModel and FnQuotedEndModel: the walks.
-/
import Derived.Test.Qxb6609257aCopy
namespace Go.Proofs.Qxb6609257a
open Go.RowKit
set_option linter.unusedVariables false
set_option linter.unusedSimpArgs false

def TruePost (w : World) (e : Ending) (w' : World) : Prop := e = .returned (.bool true) ∧ Below w.heap.size w w'

set_option maxRecDepth 100000 in
set_option maxHeartbeats 3200000 in
theorem law3_any (x : Addr) (n c : Nat) (zs : List Int) (i : Int) (b1 b2 : Bool) (F S : Array Value) (ld tr : Nat → Bool) (w : World) (hn : n ≤ 9223372036854775807) (hnz : n ≤ zs.length) (hzb : ∀ z ∈ zs, 0 ≤ z ∧ z ≤ 255)
    (hcell : ∀ i, i < zs.length → w.cell? (x.add i) = some (.int .u8 (zs.getD i 0))) (hF : Tab F ld) (hS : Tab S tr) (hib : -9223372036854775808 ≤ i ∧ i ≤ 9223372036854775807) :
    Calls Try.prog 3 #[.slice (some x) n c, .int .i64 i, .bool b1, .bool b2, .agg F, .agg S] w (TruePost w) := by
  obtain ⟨i0, hi0, hz0, hz1, hz2⟩ := info_parts Try.info5
  have HC : Hid (∀ i, i < zs.length → w.cell? (x.add i) = some (.int .u8 (zs.getD i 0))) := hcell
  have HT : Hid (Tab F ld ∧ Tab S tr ∧ ∀ z ∈ zs, 0 ≤ z ∧ z ≤ 255) := ⟨hF, hS, hzb⟩
  have hFs := hF.1
  have hSs := hS.1
  have hneq := fun wx => run_neq_slice_nil_any (P := Try.prog) wx 22 5 (some x) n c 0 0 Try.underlying22
  clear hcell hF hS hzb
  have HX1 : Hid (Box ((w.alloc (Obj.cells F 23)).alloc (Obj.cells S 23)) w.heap.size F ∧ Box ((w.alloc (Obj.cells F 23)).alloc (Obj.cells S 23)) (w.heap.size + 1) S ∧ Below w.heap.size w ((w.alloc (Obj.cells F 23)).alloc (Obj.cells S 23))) := by
    refine ⟨(box_new w F).alloc _, ?_, ((Below.refl _ _).alloc (Nat.le_refl _) _).alloc (by simp) _⟩
    have := box_new (w.alloc (Obj.cells F 23)) S
    rwa [show (w.alloc (Obj.cells F 23)).heap.size = w.heap.size + 1 by simp] at this
  go_enter Try.func3, Try.ntmps3
  go_wp2_with (first
    | (refine wpList_load_arr rfl (.tmp 10) rfl w.heap.size rfl F ?_ hFs ?_; exact HX1.out.1)
    | (refine wpList_load_arr rfl (.tmp 11) rfl (w.heap.size + 1) rfl S ?_ hSs ?_; exact HX1.out.2.1))
  refine (bytes7_any (some x) n c i b1 b2 F S _ hn hFs hSs).mono ?_
  rintro e w1 ⟨b, rfl, hb1⟩
  have H1 : Hid (Box w1 w.heap.size F ∧ Box w1 (w.heap.size + 1) S ∧ Below w.heap.size w w1) := ⟨HX1.out.1.below hb1, HX1.out.2.1.below hb1, HX1.out.2.2.trans (hb1.mono HX1.out.2.2.size)⟩
  clear hb1 HX1
  cases b
  · go_wp2_with fail
    go_ret
    exact ⟨rfl, H1.out.2.2⟩
  by_cases t1 : 1048576 < n
  · go_wp2_with fail
    go_ret
    exact ⟨rfl, H1.out.2.2⟩
  by_cases t2 : i < 0
  · go_wp2_with fail
    go_ret
    exact ⟨rfl, H1.out.2.2⟩
  by_cases t3 : (n : Int) ≤ i
  · go_wp2_with fail
    go_ret
    exact ⟨rfl, H1.out.2.2⟩
  obtain ⟨k, rfl⟩ : ∃ k : Nat, i = k := ⟨i.toNat, by omega⟩
  have hkn : k < n := by omega
  go_wp2_with (at_make; refine wpList_make_full _ rfl _ _ 22 rfl w1.heap.size 5 i0 (.int .u8 0) 1 Try.underlying22 hi0 hz0 hz1 _ _ _ _ n rfl rfl rfl rfl (by rw [hz2]; omega) (by unfold maxLen; omega) (Nat.le_refl _) ?_)
  intro w2 hown hgrow
  obtain ⟨cur, hg, hsz⟩ : ∃ cur : Array Value, w2.heap[w1.heap.size]? = some (.cells cur 5 (0, 0)) ∧ n ≤ cur.size := by
    rcases hown.2 with ⟨h, _⟩ | ⟨g, cap, cur, hv, _, hh, hc1, _, hc2, _⟩
    · simp at h
    · simp at hv
      obtain ⟨rfl, rfl⟩ := hv
      exact ⟨cur, hh, by omega⟩
  have hlen : ((zs.take n).map (Value.int .u8)).length = n := by simp [Nat.min_eq_left hnz]
  have hsrc := take_cells (w := w1) (n := n) hgrow hnz (fun i hi => cell_below (HC.out i hi) H1.out.2.2)
  obtain ⟨W3, hW3⟩ : ∃ W3, w2.setRow w1.heap.size ((zs.map (Value.int .u8)).take n ++ cur.toList.drop n).toArray = W3 := ⟨_, rfl⟩
  have hb3 : Below w1.heap.size w1 W3 := by rw [← hW3]; exact below_setRow ((Below.refl _ _).grown hgrow (Nat.le_refl _) (by simp)) (Nat.le_refl _) _
  have H3 : Hid (Box W3 w.heap.size F ∧ Box W3 (w.heap.size + 1) S ∧ Below w.heap.size w W3 ∧ ∀ j, j < n → W3.cell? ⟨w1.heap.size, j, none⟩ = some (.int .u8 (tOf zs j : Int))) := by
    refine ⟨H1.out.1.below hb3, H1.out.2.1.below hb3, H1.out.2.2.trans (hb3.mono H1.out.2.2.size), ?_⟩
    rw [← hW3]
    exact txt_setRow hnz HT.out.2.2 hg
  have HS : Hid (((zs.take n).map (Value.int .u8)).length = n ∧ (∀ j v, ((zs.take n).map (Value.int .u8))[j]? = some v → w2.cell? (x.add j) = some v) ∧ w2.heap[w1.heap.size]? = some (.cells cur 5 (0, 0))) := ⟨hlen, hsrc, hg⟩
  clear hb3 hown hgrow hsrc hlen hg
  go_wp2_with (first
    | (refine wpList_copy_own rfl (.tmp 43) (.tmp 44) 22 22 rfl 5 Try.underlying22 (by simp [hi0, hz1]) w1.heap.size 0 n n x n c rfl rfl cur 5 HS.out.2.2 ((zs.take n).map (Value.int .u8)) (by rw [HS.out.1]; simp) HS.out.2.1 (by rw [HS.out.1]; omega) (ints_oneCell _ _) ?_)
    | (refine wpList_load_arr rfl (.tmp 10) rfl w.heap.size rfl F ?_ hFs ?_; exact H3.out.1)
    | (refine wpList_load_arr rfl (.tmp 11) rfl (w.heap.size + 1) rfl S ?_ hSs ?_; exact H3.out.2.1))
  refine (new_any b1 b2 F S W3 hFs hSs).mono ?_
  rintro e w4 ⟨cs, rfl, hb4, hch⟩
  have H4 : Hid (Mem w4 w1.heap.size n (tOf zs) cs b2 ld tr ∧ Below w.heap.size w w4 ∧ Box w4 w.heap.size F ∧ Box w4 (w.heap.size + 1) S) :=
    ⟨hch.mem (fun j hj => cell_below (H3.out.2.2.2 j hj) hb4) (tOf_lt HT.out.2.2) HT.out.1 HT.out.2.1, H3.out.2.2.1.trans (hb4.mono H3.out.2.2.1.size), H3.out.1.below hb4, H3.out.2.1.below hb4⟩
  clear hb4 hch hW3 H3 HS
  go_wp2_with fail
  refine (zzNext_any w1.heap.size n n (tOf zs) cs b2 ld tr k b1 _ (H4.out.1.below (bel_alloc _ _)) hkn (by omega) ⟨Nat.le_refl _, hn⟩).mono ?_
  rintro e w5 ⟨rfl, hb5⟩
  have H5 : Hid (Mem w5 w1.heap.size n (tOf zs) cs b2 ld tr ∧ Below w.heap.size w w5 ∧ Box w5 w.heap.size F ∧ Box w5 (w.heap.size + 1) S) := by
    have hb : Below w4.heap.size w4 w5 := (bel_alloc _ _).trans (hb5.mono (by simp))
    exact ⟨H4.out.1.below hb, H4.out.2.1.trans (hb.mono H4.out.2.1.size), H4.out.2.2.1.below hb, H4.out.2.2.2.below hb⟩
  clear hb5
  obtain ⟨r, hr⟩ : ∃ r, ans b1 false n (pr n (tOf zs) b2 ld tr) (tOf zs) (tOf zs k) (k + 1) = r := ⟨_, rfl⟩
  have HRR : Hid (ans b1 false n (pr n (tOf zs) b2 ld tr) (tOf zs) (tOf zs k) (k + 1) = r) := hr
  rw [hr]
  clear hr
  go_wp2_with (first
    | (refine wpList_load_arr rfl (.tmp 10) rfl w.heap.size rfl F ?_ hFs ?_; exact H5.out.2.2.1)
    | (refine wpList_load_arr rfl (.tmp 11) rfl (w.heap.size + 1) rfl S ?_ hSs ?_; exact H5.out.2.2.2))
  refine (model_any w1.heap.size n n (tOf zs) b2 ld tr F S k b1 false _ H5.out.1.txt H5.out.1.byte HT.out.1 HT.out.2.1 hkn (by omega)).mono ?_
  rintro e w6 ⟨rfl, hb6⟩
  have H6 : Hid (Below w.heap.size w w6) := H5.out.2.1.trans (hb6.mono H5.out.2.1.size)
  clear hb6
  rw [HRR.out]
  go_wp2_with fail
  go_ret
  exact ⟨rfl, H6.out⟩

end Go.Proofs.Qxb6609257a
