/-
  ZZsplitPath; the two copies.
-/
import Derived.Test.Qxb6606428aSplitE
import Derived.Deep.OwnRows
import Derived.Lib.SliceRun
namespace Go.Proofs.Qxb6606428a
open Go.RowKit
set_option linter.unusedVariables false
set_option linter.unusedSimpArgs false

theorem split_any (B : Nat) (text : ByteArray) (eb : Bool) (depth : Int) (es : List Int) (ds : List UInt8) (ea da : Option Addr) (ec dc : Nat) (w : World)
    (hoe : w.ownsRow B 3 1 (.slice ea es.length ec) es.length (icells es)) (hod : w.ownsRow B 5 1 (.slice da ds.length dc) ds.length (bcells ds))
    (ht : 1 ≤ text.size) (hts : text.size ≤ 1048576) (hde : es.length ≤ 32768) (hdd : ds.length ≤ 262144) (hB : B ≤ w.heap.size) (hd : -9223372036854775808 ≤ depth ∧ depth ≤ 9223372036854775807) :
    Calls Try.prog 15 #[.agg #[.string text, .bool eb], .int .i64 depth, .slice ea es.length ec, .slice da ds.length dc] w (SPost B text (escOf text eb) depth es ds (.slice ea es.length ec) (.slice da ds.length dc) w) := by
  cases h : escOf text eb
  · exact split_plain B text eb depth es ds ea da ec dc w hoe hod ht hts hde hdd hB hd h
  · exact split_esc B text eb depth es ds ea da ec dc w hoe hod ht hts hde hdd hB hd h

def ZPost (B : Nat) (text : ByteArray) (b : Bool) (depth : Int) (es : List Int) (ds : List UInt8) (ev dv : Value) (w : World) (e : Ending) (w' : World) : Prop :=
  ∃ (ea' da' : Option Addr) (ec' dc' : Nat) (E : List Int) (D : List UInt8), e = .returned (.tuple #[.bool b, .bool (moreOf (restOf text).data.toList (room depth es.length)), .bool (endsS (restOf text)), .slice ea' E.length ec', .slice da' D.length dc']) ∧
    Two w w' B 3 ev es.length (.slice ea' E.length ec') E.length (icells E) 5 dv ds.length (.slice da' D.length dc') D.length (bcells D) ∧
    (E, D) = fold b (restOf text).data.toList es ds ((segsFrom (restOf text).data.toList 0).take (room depth es.length))

theorem ret_tup5 {b m s b' m' s' : Bool} {x y : Value} (h1 : b = b') (h2 : m = m') (h3 : s = s') : Ending.returned (.tuple #[.bool b, .bool m, .bool s, x, y]) = .returned (.tuple #[.bool b', .bool m', .bool s', x, y]) := by rw [h1, h2, h3]

set_option maxRecDepth 100000 in
set_option maxHeartbeats 1600000 in
theorem zz_any (B : Nat) (text : ByteArray) (eb : Bool) (depth : Int) (es : List Int) (ds : List UInt8) (ea da : Option Addr) (ec dc : Nat) (w : World)
    (hoe : w.ownsRow B 3 1 (.slice ea es.length ec) es.length (icells es)) (hod : w.ownsRow B 5 1 (.slice da ds.length dc) ds.length (bcells ds))
    (ht : 1 ≤ text.size) (hts : text.size ≤ 1048576) (hde : es.length ≤ 32768) (hdd : ds.length ≤ 262144) (hB : B ≤ w.heap.size) (hd : -9223372036854775808 ≤ depth ∧ depth ≤ 9223372036854775807) :
    Calls Try.prog 7 #[.string text, .bool eb, .int .i64 depth, .slice ea es.length ec, .slice da ds.length dc] w (ZPost B text (escOf text eb) depth es ds (.slice ea es.length ec) (.slice da ds.length dc) w) := by
  have HO : Hid (w.ownsRow B 3 1 (.slice ea es.length ec) es.length (icells es) ∧ w.ownsRow B 5 1 (.slice da ds.length dc) ds.length (bcells ds)) := ⟨hoe, hod⟩
  clear hoe hod
  go_enter Try.func7, Try.ntmps7
  go_wp2_with fail
  refine (split_any B text eb depth es ds ea da ec dc w HO.out.1 HO.out.2 ht hts hde hdd hB hd).mono ?_
  rintro e w' ⟨ev', dv', E, D, rfl, htwo, hf⟩
  obtain ⟨a1, c1, rfl, _⟩ := own_shape htwo.own1
  obtain ⟨a2, c2, rfl, _⟩ := own_shape htwo.own2
  have HT : Hid (Two w w' B 3 (.slice ea es.length ec) es.length (.slice a1 E.length c1) E.length (icells E) 5 (.slice da ds.length dc) ds.length (.slice a2 D.length c2) D.length (bcells D)) := htwo
  have HF : Hid ((E, D) = fold (escOf text eb) (restOf text).data.toList es ds ((segsFrom (restOf text).data.toList 0).take (room depth es.length))) := hf
  have hrz : B ≤ w'.heap.size := Nat.le_trans hB htwo.bel.size
  clear htwo hf
  obtain ⟨b1, hb1⟩ : ∃ b1, escOf text eb = b1 := ⟨_, rfl⟩
  obtain ⟨b2, hb2⟩ : ∃ b2, moreOf (restOf text).data.toList (room depth es.length) = b2 := ⟨_, rfl⟩
  obtain ⟨b3, hb3⟩ : ∃ b3, endsS (restOf text) = b3 := ⟨_, rfl⟩
  rw [hb1, hb2, hb3]
  have HB : Hid (b1 = escOf text eb ∧ b2 = moreOf (restOf text).data.toList (room depth es.length) ∧ b3 = endsS (restOf text)) := ⟨hb1.symm, hb2.symm, hb3.symm⟩
  clear hb1 hb2 hb3
  go_wp2_with fail
  go_quiet (fail)
  go_wp2_with fail
  refine bodyPost_ret (v := .tuple #[.bool b1, .bool b2, .bool b3, .slice a1 E.length c1, .slice a2 D.length c2]) (by simp [results, Try.results7, go_sem]) rfl ?_
  exact ⟨a1, a2, c1, c2, E, D, ret_tup5 HB.out.1 HB.out.2.1 HB.out.2.2, HT.out.post (below_drewN (bel_alloc _ _) _) hrz, HF.out⟩

/-! ### The copies -/
theorem cell_past {w : World} {p : Addr} {v : Value} (h : w.cell? p = some v) : p.block < w.heap.size := by
  unfold World.cell? at h
  split at h
  · rename_i hh
    exact (Array.getElem?_eq_some_iff.1 hh).1
  · cases h

theorem row_own {w : World} {b : Nat} {t : TypeId} {n : Nat} {f : Nat → Value} (h : w.rowIs b t n f) {base : Nat} (hb : base ≤ b) (hn : n ≤ maxLen) : w.ownsRow base t 1 (.slice (some ⟨b, 0, none⟩) n n) n ((List.range n).map f) := by
  obtain ⟨c, hc, hs, hi⟩ := h
  refine ⟨by simp, .inr ⟨b, n, c, rfl, hb, hc, Nat.le_refl _, hn, by omega, ?_⟩⟩
  apply List.ext_getElem?
  intro i
  by_cases hlt : i < n
  · rw [List.getElem?_take_of_lt (by omega), Array.getElem?_toList, hi i hlt]
    simp [hlt]
  · rw [List.getElem?_eq_none (by simp; omega), List.getElem?_eq_none (by simp; omega)]

def CPost (e : TypeId) (k : IntKind) (f : Nat → Int) (len : Nat) (w : World) (en : Ending) (w' : World) : Prop :=
  ∃ (a : Option Addr) (c : Nat), en = .returned (.slice a len c) ∧ w'.ownsRow w.heap.size e 1 (.slice a len c) len ((List.range len).map fun i => .int k (f i)) ∧ Below w.heap.size w w'

set_option maxRecDepth 100000 in
set_option maxHeartbeats 1600000 in
theorem cloneInts_nil (w : World) : Calls Try.prog 12 #[.slice none 0 0] w fun en w' => en = .returned (.slice none 0 0) ∧ w' = w := by
  have hq := fun w => Lib.run_eql_slice_nil (P := Try.prog) w 23 3 none 0 0 0 0 Try.underlying23
  go_enter Try.func12, Try.ntmps12
  go_wp2
  go_ret
  exact ⟨rfl, rfl⟩

set_option maxRecDepth 100000 in
set_option maxHeartbeats 1600000 in
theorem cloneInts_row (x : Addr) (len cap : Nat) (f : Nat → Int) (w : World) (hl : len ≤ 1048576) (hx : ∀ i, i < len → w.cell? (x.add i) = some (.int .i64 (f i))) :
    Calls Try.prog 12 #[.slice (some x) len cap] w (CPost 3 .i64 f len w) := by
  have HX : Hid (∀ i, i < len → w.cell? (x.add i) = some (.int .i64 (f i))) := hx
  clear hx
  have hmk := run_make_row' (P := Try.prog) 23 3 (.int .i64 0) 8 Try.underlying23 Try.info3 rfl .i64 .i64 len (by omega) (by omega)
  have hq := fun w => Lib.run_eql_slice_nil (P := Try.prog) w 23 3 (some x) len cap 0 0 Try.underlying23
  go_enter Try.func12, Try.ntmps12
  go_wp2_with fail
  clear hmk
  have hm := World.rowIs_made w (.int .i64 0) len 3
  have hbl := bel_alloc w (.cells (madeCells #[.int .i64 0] len) 3)
  revert hm hbl
  generalize w.alloc (.cells (madeCells #[.int .i64 0] len) 3) = W
  intro hm hbl
  have HM : Hid (W.rowIs w.heap.size 3 len (fun _ => .int .i64 0) ∧ Below w.heap.size w W) := ⟨hm, hbl⟩
  clear hm hbl
  go_loopw [4] (fun iv wr => ∃ i : Nat, iv = .int .i64 i ∧ i ≤ len ∧ Hid (wr.rowIs w.heap.size 3 len (fun j => if j < i then .int .i64 (f j) else .int .i64 0) ∧ Below w.heap.size w wr)) (fun iv _ => len - (intOf iv).toNat)
  case atStart => exact ⟨0, rfl, Nat.zero_le _, HM.out.1.congr fun i hi => by simp, HM.out.2⟩
  case round =>
    obtain ⟨i, rfl, hil, HI⟩ := hrel
    by_cases h : i < len
    · have h1 : wr.cell? (x.add i) = some (.int .i64 (f i)) := by
        have := HX.out i h
        rw [← this]
        exact HI.out.2.cell (cell_past this)
      have h2 : wr.cell? ⟨w.heap.size, i, none⟩ = some (.int .i64 0) := by rw [HI.out.1.cell h]; simp
      have h3 : wr.frozen? ⟨w.heap.size, i, none⟩ = false := HI.out.1.frozen i
      go_wp2_with fail
      go_roundw
      case rel =>
        refine ⟨i + 1, by simp, h, (HI.out.1.set i _).congr fun j hj => ?_, HI.out.2.setCell (Nat.le_refl _) _⟩
        by_cases e1 : j = i
        · subst e1; simp
        · by_cases e2 : j < i
          · simp [e1, e2, Nat.lt_succ_of_lt e2]
          · simp [e1, e2, show ¬ j < i + 1 by omega]
      case measure => simp [intOf]; omega
    · go_wp2_with fail
      go_ret
      refine ⟨_, _, rfl, ?_, HI.out.2⟩
      have := row_own HI.out.1 (base := w.heap.size) (Nat.le_refl _) (by unfold maxLen; omega)
      obtain rfl : i = len := by omega
      rw [show (List.range i).map (fun j => Value.int .i64 (f j)) = (List.range i).map (fun j => if j < i then Value.int .i64 (f j) else .int .i64 0) from List.map_congr_left fun j hj => by simp [List.mem_range.1 hj]]
      exact this

set_option maxRecDepth 100000 in
set_option maxHeartbeats 1600000 in
theorem cloneBytes_nil (w : World) : Calls Try.prog 13 #[.slice none 0 0] w fun en w' => en = .returned (.slice none 0 0) ∧ w' = w := by
  have hq := fun w => Lib.run_eql_slice_nil (P := Try.prog) w 24 5 none 0 0 0 0 Try.underlying24
  go_enter Try.func13, Try.ntmps13
  go_wp2
  go_ret
  exact ⟨rfl, rfl⟩

set_option maxRecDepth 100000 in
set_option maxHeartbeats 1600000 in
theorem cloneBytes_row (x : Addr) (len cap : Nat) (f : Nat → Int) (w : World) (hl : len ≤ 1048576) (hx : ∀ i, i < len → w.cell? (x.add i) = some (.int .u8 (f i))) :
    Calls Try.prog 13 #[.slice (some x) len cap] w (CPost 5 .u8 f len w) := by
  have HX : Hid (∀ i, i < len → w.cell? (x.add i) = some (.int .u8 (f i))) := hx
  clear hx
  have hmk := run_make_row' (P := Try.prog) 24 5 (.int .u8 0) 1 Try.underlying24 Try.info5 rfl .i64 .i64 len (by omega) (by omega)
  have hq := fun w => Lib.run_eql_slice_nil (P := Try.prog) w 24 5 (some x) len cap 0 0 Try.underlying24
  go_enter Try.func13, Try.ntmps13
  go_wp2_with fail
  clear hmk
  have hm := World.rowIs_made w (.int .u8 0) len 5
  have hbl := bel_alloc w (.cells (madeCells #[.int .u8 0] len) 5)
  revert hm hbl
  generalize w.alloc (.cells (madeCells #[.int .u8 0] len) 5) = W
  intro hm hbl
  have HM : Hid (W.rowIs w.heap.size 5 len (fun _ => .int .u8 0) ∧ Below w.heap.size w W) := ⟨hm, hbl⟩
  clear hm hbl
  go_loopw [4] (fun iv wr => ∃ i : Nat, iv = .int .i64 i ∧ i ≤ len ∧ Hid (wr.rowIs w.heap.size 5 len (fun j => if j < i then .int .u8 (f j) else .int .u8 0) ∧ Below w.heap.size w wr)) (fun iv _ => len - (intOf iv).toNat)
  case atStart => exact ⟨0, rfl, Nat.zero_le _, HM.out.1.congr fun i hi => by simp, HM.out.2⟩
  case round =>
    obtain ⟨i, rfl, hil, HI⟩ := hrel
    by_cases h : i < len
    · have h1 : wr.cell? (x.add i) = some (.int .u8 (f i)) := by
        have := HX.out i h
        rw [← this]
        exact HI.out.2.cell (cell_past this)
      have h2 : wr.cell? ⟨w.heap.size, i, none⟩ = some (.int .u8 0) := by rw [HI.out.1.cell h]; simp
      have h3 : wr.frozen? ⟨w.heap.size, i, none⟩ = false := HI.out.1.frozen i
      go_wp2_with fail
      go_roundw
      case rel =>
        refine ⟨i + 1, by simp, h, (HI.out.1.set i _).congr fun j hj => ?_, HI.out.2.setCell (Nat.le_refl _) _⟩
        by_cases e1 : j = i
        · subst e1; simp
        · by_cases e2 : j < i
          · simp [e1, e2, Nat.lt_succ_of_lt e2]
          · simp [e1, e2, show ¬ j < i + 1 by omega]
      case measure => simp [intOf]; omega
    · go_wp2_with fail
      go_ret
      refine ⟨_, _, rfl, ?_, HI.out.2⟩
      have := row_own HI.out.1 (base := w.heap.size) (Nat.le_refl _) (by unfold maxLen; omega)
      obtain rfl : i = len := by omega
      rw [show (List.range i).map (fun j => Value.int .u8 (f j)) = (List.range i).map (fun j => if j < i then Value.int .u8 (f j) else .int .u8 0) from List.map_congr_left fun j hj => by simp [List.mem_range.1 hj]]
      exact this

end Go.Proofs.Qxb6606428a
