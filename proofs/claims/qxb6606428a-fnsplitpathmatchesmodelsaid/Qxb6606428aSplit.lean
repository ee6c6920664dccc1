/-
  splitPath.
-/
import Derived.Test.Qxb6606428aUnesc
import Derived.Test.Qxb6606428aTwo
namespace Go.Proofs.Qxb6606428a
open Go.RowKit
set_option linter.unusedVariables false
set_option linter.unusedSimpArgs false

def escOf (text : ByteArray) (eb : Bool) : Bool := eb && decide ((37 : UInt8) ∈ text.data.toList)
def restOf (text : ByteArray) : ByteArray := text.extract 1 text.size
def moreOf (R : List UInt8) (m : Nat) : Bool := decide (¬ ((segsFrom R 0).drop m = []))

def SPost (B : Nat) (text : ByteArray) (b : Bool) (depth : Int) (es : List Int) (ds : List UInt8) (ev dv : Value) (w : World) (e : Ending) (w' : World) : Prop :=
  ∃ (ev' dv' : Value) (E : List Int) (D : List UInt8), e = .returned (.agg #[.string (restOf text), .bool b, dv', ev', .bool (moreOf (restOf text).data.toList (room depth es.length)), .bool (endsS (restOf text))]) ∧
    Two w w' B 3 ev es.length ev' E.length (icells E) 5 dv ds.length dv' D.length (bcells D) ∧
    (E, D) = fold b (restOf text).data.toList es ds ((segsFrom (restOf text).data.toList 0).take (room depth es.length))

/-- The loop's relation. -/
def SRel (B : Nat) (R : List UInt8) (b : Bool) (depth : Int) (es : List Int) (ds : List UInt8) (ev0 dv0 : Value) (w : World) (ev dv iv : Value) (wr : World) : Prop :=
  ∃ (done : List (Nat × Nat)) (st : Nat) (E : List Int) (D : List UInt8), iv = .int .i64 st ∧ segsFrom R 0 = done ++ segsFrom R st ∧ done.length ≤ room depth es.length ∧ (E, D) = fold b R es ds done ∧ E.length = es.length + done.length ∧ done.length ≤ st ∧ st ≤ R.length + 1 ∧ D.length ≤ ds.length + st ∧
    Two w wr B 3 ev0 es.length ev E.length (icells E) 5 dv0 ds.length dv D.length (bcells D)

theorem own_ne {w : World} {b : Nat} {e : TypeId} {v : Value} {n : Nat} {xs : List Value} (h : w.ownsRow b e 1 v n xs) {k : Nat} (hk : w.heap.size ≤ k) : some k ≠ v.ownBlock := by
  intro e1
  have := (h.lt k e1.symm).2
  omega

/-- The struct of six cells at block O. -/
def Six (w : World) (O : Nat) (x0 x1 x2 x3 x4 x5 : Value) : Prop := w.heap[O]? = some (.cells #[x0, x1, x2, x3, x4, x5] 35 (0, 0))
section
variable {w w' : World} {O : Nat} {x0 x1 x2 x3 x4 x5 : Value}
theorem Six.c0 (h : Six w O x0 x1 x2 x3 x4 x5) : w.cell? ⟨O, 0, none⟩ = some x0 := by unfold Six at h; simp [World.cell?, h]
theorem Six.c1 (h : Six w O x0 x1 x2 x3 x4 x5) : w.cell? ⟨O, 1, none⟩ = some x1 := by unfold Six at h; simp [World.cell?, h]
theorem Six.c2 (h : Six w O x0 x1 x2 x3 x4 x5) : w.cell? ⟨O, 2, none⟩ = some x2 := by unfold Six at h; simp [World.cell?, h]
theorem Six.c3 (h : Six w O x0 x1 x2 x3 x4 x5) : w.cell? ⟨O, 3, none⟩ = some x3 := by unfold Six at h; simp [World.cell?, h]
theorem Six.c4 (h : Six w O x0 x1 x2 x3 x4 x5) : w.cell? ⟨O, 4, none⟩ = some x4 := by unfold Six at h; simp [World.cell?, h]
theorem Six.c5 (h : Six w O x0 x1 x2 x3 x4 x5) : w.cell? ⟨O, 5, none⟩ = some x5 := by unfold Six at h; simp [World.cell?, h]
theorem Six.fz (h : Six w O x0 x1 x2 x3 x4 x5) (j : Nat) : w.frozen? ⟨O, j, none⟩ = false := by unfold Six at h; simp [World.frozen?, h]
theorem Six.kept (h : Six w O x0 x1 x2 x3 x4 x5) (hk : w'.heap[O]? = w.heap[O]?) : Six w' O x0 x1 x2 x3 x4 x5 := hk.trans h
theorem Six.ne {b : Nat} {e : TypeId} {v : Value} {n : Nat} {xs : List Value} (h : Six w O x0 x1 x2 x3 x4 x5) (ho : w.ownsRow b e 1 v n xs) (he : 35 ≠ e) : some O ≠ v.ownBlock := block_types ho h he
end

/-- The world at the loop's head. -/
structure Head (w W : World) (rest : ByteArray) (b sl : Bool) : Prop where
  bel : Below w.heap.size w W
  size : W.heap.size = w.heap.size + 3
  s8 : Six W (w.heap.size + 1) (.string { data := #[] }) (.bool false) (.slice none 0 0) (.slice none 0 0) (.bool false) (.bool false)
  s9 : Six W (w.heap.size + 1 + 1) (.string rest) (.bool b) (.slice none 0 0) (.slice none 0 0) (.bool false) (.bool sl)

theorem heap_at (w : World) (o : Obj) : (w.alloc o).heap[w.heap.size]? = some o := by show (w.heap.push o)[w.heap.size]? = _; simp
theorem head_new (w : World) (rest : ByteArray) (b sl : Bool) (o : Obj) : Head w (((w.alloc o).alloc (Obj.cells #[Value.string { data := #[] }, Value.bool false, Value.slice none 0 0, Value.slice none 0 0, Value.bool false, Value.bool false] 35)).alloc
      (Obj.cells #[Value.string rest, Value.bool b, Value.slice none 0 0, Value.slice none 0 0, Value.bool false, Value.bool sl] 35)) rest b sl := by
  refine ⟨(((Below.refl _ _).alloc (Nat.le_refl _) _).alloc (by simp) _).alloc (by simp; omega) _, by simp, ?_, ?_⟩
  · unfold Six
    rw [Below.heap_alloc _ _ _ (by simp), show w.heap.size + 1 = (w.alloc o).heap.size by simp, heap_at]
  · unfold Six
    rw [show w.heap.size + 1 + 1 = ((w.alloc o).alloc (Obj.cells #[Value.string { data := #[] }, Value.bool false, Value.slice none 0 0, Value.slice none 0 0, Value.bool false, Value.bool false] 35)).heap.size by simp, heap_at]

theorem ext_drop (s : ByteArray) (k : Nat) : (s.extract k s.size).data.toList = s.data.toList.drop k := by
  rw [ByteArray.data_extract, Array.toList_extract, List.extract_eq_take_drop]
  exact List.take_of_length_le (by simp)
theorem seg_next {R : List UInt8} {done : List (Nat × Nat)} {st : Nat} (h : segsFrom R 0 = done ++ segsFrom R st) (hst : st < R.length) {q : Nat} (hq : q = st + pre 47 (R.drop st)) : segsFrom R 0 = (done ++ [(st, q)]) ++ segsFrom R (q + 1) := by
  rw [h, segsFrom_cons hst, ← hq]; simp
theorem room_next {depth : Int} {k d : Nat} (h : ((k + d : Nat) : Int) < depth) : d + 1 ≤ room depth k := by unfold room; omega
/-- What stands at the loop's end. -/
theorem seg_end {R : List UInt8} {done : List (Nat × Nat)} {st m : Nat} (h : segsFrom R 0 = done ++ segsFrom R st) (hm : done.length ≤ m) (he : R.length ≤ st ∨ m ≤ done.length) : (segsFrom R 0).take m = done ∧ moreOf R m = decide (st < R.length) := by
  have hd : st < R.length → segsFrom R st ≠ [] := fun hl => by rw [segsFrom_cons hl]; simp
  unfold moreOf
  rcases he with he | he
  · rw [segsFrom_nil he, List.append_nil] at h
    rw [h, List.take_of_length_le hm, List.drop_of_length_le hm]
    exact ⟨rfl, by simp; exact he⟩
  · have e : m = done.length := by omega
    rw [h, e, List.take_left, List.drop_left]
    refine ⟨rfl, ?_⟩
    by_cases hl : st < R.length
    · simp [hd hl, hl]
    · rw [segsFrom_nil (by omega)]; simp; omega

/-- The end: what the call leaves, the last stores done. -/
theorem split_done {B : Nat} {text rest : ByteArray} {b sl mo : Bool} {depth : Int} {es : List Int} {ds : List UInt8} {ev dv ev1 dv1 : Value} {w W wr : World} {E : List Int} {D : List UInt8} {done : List (Nat × Nat)} {st : Nat} {x0 x1 x2 x3 x4 x5 y0 y1 y2 y3 y4 y5 : Value}
    (HR : restOf text = rest) (HSL : sl = endsS rest) (hB : B ≤ w.heap.size) (HH : Head w W rest b sl) (HT : Two W wr B 3 ev es.length ev1 E.length (icells E) 5 dv ds.length dv1 D.length (bcells D))
    (s8 : Six wr (w.heap.size + 1) x0 x1 x2 x3 x4 x5) (s9 : Six wr (w.heap.size + 1 + 1) y0 y1 y2 y3 y4 y5)
    (he : (segsFrom rest.data.toList 0).take (room depth es.length) = done ∧ moreOf rest.data.toList (room depth es.length) = decide (st < rest.data.toList.length)) (hf : (E, D) = fold b rest.data.toList es ds done) (hmo : decide (st < rest.data.toList.length) = mo)
    (u1 u2 u3 u4 u5 u6 u7 u8 u9 : Value) (p1 p2 p3 q1 q2 q3 q4 q5 q6 : Nat) :
    SPost B text b depth es ds ev dv w (.returned (.agg #[.string rest, .bool b, dv1, ev1, .bool mo, .bool sl]))
      (((((((((wr.setCell ⟨w.heap.size + 1 + 1, p1, none⟩ u1).setCell ⟨w.heap.size + 1 + 1, p2, none⟩ u2).setCell ⟨w.heap.size + 1 + 1, p3, none⟩ u3).setCell ⟨w.heap.size + 1, q1, none⟩ u4).setCell ⟨w.heap.size + 1, q2, none⟩ u5).setCell ⟨w.heap.size + 1, q3, none⟩ u6).setCell ⟨w.heap.size + 1, q4, none⟩ u7).setCell ⟨w.heap.size + 1, q5, none⟩ u8).setCell ⟨w.heap.size + 1, q6, none⟩ u9) := by
  subst HR HSL
  have n1 := s8.ne HT.own1 (by decide)
  have n2 := s8.ne HT.own2 (by decide)
  have m1 := s9.ne HT.own1 (by decide)
  have m2 := s9.ne HT.own2 (by decide)
  have hW := HH.size
  have T0 := HT.pre HH.bel hB
  refine ⟨ev1, dv1, E, D, by rw [he.2, hmo], ?_, by rw [he.1]; exact hf⟩
  exact ((((((((T0.set (by simp; omega) hB m1 m2 u1).set (by simp; omega) hB m1 m2 u2).set (by simp; omega) hB m1 m2 u3).set (by simp) hB n1 n2 u4).set (by simp) hB n1 n2 u5).set (by simp) hB n1 n2 u6).set (by simp) hB n1 n2 u7).set (by simp) hB n1 n2 u8).set (by simp) hB n1 n2 u9

set_option maxRecDepth 100000 in
set_option maxHeartbeats 3200000 in
theorem split_plain (B : Nat) (text : ByteArray) (eb : Bool) (depth : Int) (es : List Int) (ds : List UInt8) (ea da : Option Addr) (ec dc : Nat) (w : World)
    (hoe : w.ownsRow B 3 1 (.slice ea es.length ec) es.length (icells es)) (hod : w.ownsRow B 5 1 (.slice da ds.length dc) ds.length (bcells ds))
    (ht : 1 ≤ text.size) (hts : text.size ≤ 1048576) (hde : es.length ≤ 32768) (hdd : ds.length ≤ 262144) (hB : B ≤ w.heap.size) (hd : -9223372036854775808 ≤ depth ∧ depth ≤ 9223372036854775807) (hesc : escOf text eb = false) :
    Calls Try.prog 15 #[.agg #[.string text, .bool eb], .int .i64 depth, .slice ea es.length ec, .slice da ds.length dc] w (SPost B text false depth es ds (.slice ea es.length ec) (.slice da ds.length dc) w) := by
  obtain ⟨i0, hi, hz0, hz1, hz2⟩ := info_parts Try.info5
  obtain ⟨i3, hi3, hy0, hy1, hy2⟩ := info_parts Try.info3
  have HO : Hid (w.ownsRow B 3 1 (.slice ea es.length ec) es.length (icells es) ∧ w.ownsRow B 5 1 (.slice da ds.length dc) ds.length (bcells ds)) := ⟨hoe, hod⟩
  clear hoe hod
  obtain ⟨rest, hrest⟩ : ∃ rest, text.extract 1 text.size = rest := ⟨_, rfl⟩
  have HR : Hid (restOf text = rest) := hrest
  have hrs : rest.size ≤ 1048576 := by rw [← hrest]; simp; omega
  obtain ⟨sl, hsl⟩ : ∃ sl, endsS rest = sl := ⟨_, rfl⟩
  have HSL : Hid (sl = endsS rest) := hsl.symm
  go_enter Try.func15, Try.ntmps15
  cases eb
  · clear hesc
    go_wp2_with fail
    refine (suffix_any rest _ (by omega)).mono ?_
    rintro e w' ⟨rfl, rfl⟩
    clear hrest ht hts
    rw [hsl]
    clear hsl
    go_wp2_with fail
    have hhd := head_new w rest false sl (Obj.cells #[Value.string text, Value.bool false] 38)
    revert hhd
    generalize (((w.alloc (Obj.cells #[Value.string text, Value.bool false] 38)).alloc (Obj.cells #[Value.string { data := #[] }, Value.bool false, Value.slice none 0 0, Value.slice none 0 0, Value.bool false, Value.bool false] 35)).alloc
      (Obj.cells #[Value.string rest, Value.bool false, Value.slice none 0 0, Value.slice none 0 0, Value.bool false, Value.bool sl] 35)) = W
    intro hhd
    have HH : Hid (Head w W rest false sl) := hhd
    clear hhd
    have hWB : B ≤ W.heap.size := by have := HH.out.size; omega
    go_loopw [2, 3, 10] (fun ev dv iv wr => SRel B rest.data.toList false depth es ds (.slice ea es.length ec) (.slice da ds.length dc) W ev dv iv wr) (fun _ _ iv _ => rest.size + 1 - (intOf iv).toNat)
    case atStart => exact ⟨[], 0, es, ds, rfl, rfl, Nat.zero_le _, rfl, rfl, Nat.le_refl _, Nat.zero_le _, Nat.le_refl _, Two.refl (own_below HO.out.1 HH.out.bel) (own_below HO.out.2 HH.out.bel)⟩
    case round =>
      obtain ⟨done, st, E, D, rfl, hseg, hdl, hfold, hE, hdst, hst, hD, htwo⟩ := hrel
      obtain ⟨a1, c1, rfl, hsh1⟩ := own_shape htwo.own1
      obtain ⟨a2, c2, rfl, hsh2⟩ := own_shape htwo.own2
      have hrl : rest.data.toList.length = rest.size := by simp
      rw [hrl] at hst
      have hk9 : some (w.heap.size + 1 + 1) ≠ Value.ownBlock (.slice ea es.length ec) := own_ne HO.out.1 (by omega)
      have hj9 : some (w.heap.size + 1 + 1) ≠ Value.ownBlock (.slice da ds.length dc) := own_ne HO.out.2 (by omega)
      have hk8 : some (w.heap.size + 1) ≠ Value.ownBlock (.slice ea es.length ec) := own_ne HO.out.1 (by omega)
      have hj8 : some (w.heap.size + 1) ≠ Value.ownBlock (.slice da ds.length dc) := own_ne HO.out.2 (by omega)
      have hWz := HH.out.size
      have s9 := HH.out.s9.kept (htwo.other _ (by omega) hk9 hj9)
      have s8 := HH.out.s8.kept (htwo.other _ (by omega) hk8 hj8)
      have k0 := s9.c0
      have k1 := s9.c1
      have HS : Hid (Six wr (w.heap.size + 1) (.string { data := #[] }) (.bool false) (.slice none 0 0) (.slice none 0 0) (.bool false) (.bool false) ∧ Six wr (w.heap.size + 1 + 1) (.string rest) (.bool false) (.slice none 0 0) (.slice none 0 0) (.bool false) (.bool sl)) := ⟨s8, s9⟩
      have HT : Hid (Two W wr B 3 (.slice ea es.length ec) es.length (.slice a1 E.length c1) E.length (icells E) 5 (.slice da ds.length dc) ds.length (.slice a2 D.length c2) D.length (bcells D)) := htwo
      have HF : Hid (segsFrom rest.data.toList 0 = done ++ segsFrom rest.data.toList st ∧ done.length ≤ room depth es.length ∧ (E, D) = fold false rest.data.toList es ds done ∧ E.length = es.length + done.length) := ⟨hseg, hdl, hfold, hE⟩
      have hEb : E.length ≤ 1100000 := by omega
      have hDb : D.length ≤ 1400000 := by omega
      have hrz : B ≤ wr.heap.size := Nat.le_trans hWB HT.out.bel.size
      clear hk9 hj9 hk8 hj8 hWz s9 s8 htwo hseg hdl hfold hsh1 hsh2 hrl hE
      by_cases h1 : st < rest.size
      · by_cases h2 : (E.length : Int) < depth
        · go_wp2_with fail
          refine (index_any (rest.extract st rest.size) 47 47 (by decide) wr).mono ?_
          rintro e w' ⟨r, rfl, hr, rfl⟩
          rw [ext_drop] at hr
          have hpl : (rest.data.toList.drop st).length = rest.size - st := by simp
          rcases hr with ⟨rfl, hp, hni⟩ | ⟨rfl, hp, hat, hno⟩
          · have HQ : Hid (rest.size = st + pre 47 (rest.data.toList.drop st)) := by show _ = _; omega
            clear hp hni hpl
            go_wp2_with (at_builtin; refine wpList_append_grew rfl (.tmp 84) (.tmp 86) 23 rfl B 3 i3 (.int .i64 0) 8 Try.underlying23 hi3 hy0 hy1 hy2 rfl _ E.length _ rfl (own_below HT.out.own1 (bel_alloc _ _)) ⟨w'.heap.size, 0, none⟩ 1 1 [.int .i64 (rest.size : Int)] rfl rfl (cell_one_at rfl) one_cell (by unfold maxLen; omega) (by omega) (by simp; omega) ?_)
            intro v2 w2 hg2
            have HT2 : Hid (Two W w2 B 3 (.slice ea es.length ec) es.length v2 (E.length + 1) (icells E ++ [.int .i64 (rest.size : Int)]) 5 (.slice da ds.length dc) ds.length (.slice a2 D.length c2) D.length (bcells D)) := (HT.out.post (bel_alloc _ _) hrz).step1 hg2 (by omega) (by decide) (by simp; omega)
            clear hg2
            go_wp2_with fail
            go_roundw
            case rel =>
              refine ⟨done ++ [(st, rest.size)], rest.size + 1, E ++ [(rest.size : Int)], D, by simp, seg_next HF.out.1 (by simpa using h1) HQ.out, ?_, ?_, ?_, ?_, ?_, ?_, ?_⟩
              · have := room_next (k := es.length) (d := done.length) (depth := depth) (by rw [← HF.out.2.2.2]; exact h2)
                simpa using this
              · rw [fold_snoc, ← HF.out.2.2.1]; rfl
              · have := HF.out.2.2.2; simp; omega
              · simp; omega
              · simp
              · omega
              · rw [show (E ++ [(rest.size : Int)]).length = E.length + 1 by simp, icells_app]; exact HT2.out
            case measure => simp [intOf]; omega
          · obtain ⟨p, hpp⟩ : ∃ p, p = pre 47 (rest.data.toList.drop st) := ⟨_, rfl⟩
            rw [← hpp] at hp ⊢
            rw [hpl] at hp
            have HQ : Hid (p + st = st + pre 47 (rest.data.toList.drop st)) := by show _ = _; omega
            clear hat hno hpl hpp
            go_wp2_with (at_builtin; refine wpList_append_grew rfl (.tmp 84) (.tmp 86) 23 rfl B 3 i3 (.int .i64 0) 8 Try.underlying23 hi3 hy0 hy1 hy2 rfl _ E.length _ rfl (own_below HT.out.own1 (bel_alloc _ _)) ⟨w'.heap.size, 0, none⟩ 1 1 [.int .i64 ((p : Int) + (st : Int))] rfl rfl (cell_one_at rfl) one_cell (by unfold maxLen; omega) (by omega) (by simp; omega) ?_)
            intro v2 w2 hg2
            have HT2 : Hid (Two W w2 B 3 (.slice ea es.length ec) es.length v2 (E.length + 1) (icells E ++ [.int .i64 ((p : Int) + (st : Int))]) 5 (.slice da ds.length dc) ds.length (.slice a2 D.length c2) D.length (bcells D)) := (HT.out.post (bel_alloc _ _) hrz).step1 hg2 (by omega) (by decide) (by simp; omega)
            clear hg2
            go_wp2_with fail
            go_roundw
            case rel =>
              refine ⟨done ++ [(st, p + st)], p + st + 1, E ++ [((p + st : Nat) : Int)], D, by simp, seg_next HF.out.1 (by simpa using h1) HQ.out, ?_, ?_, ?_, ?_, ?_, ?_, ?_⟩
              · have := room_next (k := es.length) (d := done.length) (depth := depth) (by rw [← HF.out.2.2.2]; exact h2)
                simpa using this
              · rw [fold_snoc, ← HF.out.2.2.1]; rfl
              · have := HF.out.2.2.2; simp; omega
              · simp; omega
              · simp; omega
              · omega
              · rw [show (E ++ [((p + st : Nat) : Int)]).length = E.length + 1 by simp, icells_app]; exact HT2.out
            case measure => simp [intOf]; omega
        · have HE := seg_end HF.out.1 HF.out.2.1 (.inr (by have := HF.out.2.2.2; unfold room; omega))
          have hHE : Hid ((segsFrom rest.data.toList 0).take (room depth es.length) = done ∧ moreOf rest.data.toList (room depth es.length) = decide (st < rest.data.toList.length)) := HE
          clear HE
          have k2 := HS.out.2.c2
          have k3 := HS.out.2.c3
          have k4 := HS.out.2.c4
          have k5 := HS.out.2.c5
          have f9 := HS.out.2.fz
          have f8 := HS.out.1.fz
          have j0 := HS.out.1.c0
          have j1 := HS.out.1.c1
          have j2 := HS.out.1.c2
          have j3 := HS.out.1.c3
          have j4 := HS.out.1.c4
          have j5 := HS.out.1.c5
          go_wp2_with fail
          refine bodyPost_ret (v := .agg #[.string rest, .bool false, .slice a2 D.length c2, .slice a1 E.length c1, .bool true, .bool sl]) (by simp [results, Try.results15, go_sem, j0, j1, j2, j3, j4, j5]) rfl ?_
          exact split_done HR.out HSL.out hB HH.out HT.out HS.out.1 HS.out.2 hHE.out HF.out.2.2.1 (by simp; exact h1) ..
      · have hHE : Hid ((segsFrom rest.data.toList 0).take (room depth es.length) = done ∧ moreOf rest.data.toList (room depth es.length) = decide (st < rest.data.toList.length)) := seg_end HF.out.1 HF.out.2.1 (.inl (by simp; omega))
        have k2 := HS.out.2.c2
        have k3 := HS.out.2.c3
        have k4 := HS.out.2.c4
        have k5 := HS.out.2.c5
        have f9 := HS.out.2.fz
        have f8 := HS.out.1.fz
        have j0 := HS.out.1.c0
        have j1 := HS.out.1.c1
        have j2 := HS.out.1.c2
        have j3 := HS.out.1.c3
        have j4 := HS.out.1.c4
        have j5 := HS.out.1.c5
        go_wp2_with fail
        refine bodyPost_ret (v := .agg #[.string rest, .bool false, .slice a2 D.length c2, .slice a1 E.length c1, .bool false, .bool sl]) (by simp [results, Try.results15, go_sem, j0, j1, j2, j3, j4, j5]) rfl ?_
        exact split_done HR.out HSL.out hB HH.out HT.out HS.out.1 HS.out.2 hHE.out HF.out.2.2.1 (by simp; omega) ..
  · have hni : ¬ (37 : UInt8) ∈ text.data.toList := by simpa [escOf] using hesc
    clear hesc
    go_wp2_with fail
    refine (index_any text 37 37 (by decide) _).mono ?_
    rintro e w' ⟨r, rfl, hr, rfl⟩
    obtain rfl : r = -1 := by
      rcases hr with ⟨rfl, _⟩ | ⟨_, _, h, _⟩
      · rfl
      · exact absurd (List.mem_of_getElem? h) hni
    clear hr hni
    go_wp2_with fail
    refine (suffix_any rest _ (by omega)).mono ?_
    rintro e w' ⟨rfl, rfl⟩
    clear hrest ht hts
    rw [hsl]
    clear hsl
    go_wp2_with fail
    have hhd := head_new w rest false sl (Obj.cells #[Value.string text, Value.bool true] 38)
    revert hhd
    generalize (((w.alloc (Obj.cells #[Value.string text, Value.bool true] 38)).alloc (Obj.cells #[Value.string { data := #[] }, Value.bool false, Value.slice none 0 0, Value.slice none 0 0, Value.bool false, Value.bool false] 35)).alloc
      (Obj.cells #[Value.string rest, Value.bool false, Value.slice none 0 0, Value.slice none 0 0, Value.bool false, Value.bool sl] 35)) = W
    intro hhd
    have HH : Hid (Head w W rest false sl) := hhd
    clear hhd
    have hWB : B ≤ W.heap.size := by have := HH.out.size; omega
    go_loopw [2, 3, 10] (fun ev dv iv wr => SRel B rest.data.toList false depth es ds (.slice ea es.length ec) (.slice da ds.length dc) W ev dv iv wr) (fun _ _ iv _ => rest.size + 1 - (intOf iv).toNat)
    case atStart => exact ⟨[], 0, es, ds, rfl, rfl, Nat.zero_le _, rfl, rfl, Nat.le_refl _, Nat.zero_le _, Nat.le_refl _, Two.refl (own_below HO.out.1 HH.out.bel) (own_below HO.out.2 HH.out.bel)⟩
    case round =>
      obtain ⟨done, st, E, D, rfl, hseg, hdl, hfold, hE, hdst, hst, hD, htwo⟩ := hrel
      obtain ⟨a1, c1, rfl, hsh1⟩ := own_shape htwo.own1
      obtain ⟨a2, c2, rfl, hsh2⟩ := own_shape htwo.own2
      have hrl : rest.data.toList.length = rest.size := by simp
      rw [hrl] at hst
      have hk9 : some (w.heap.size + 1 + 1) ≠ Value.ownBlock (.slice ea es.length ec) := own_ne HO.out.1 (by omega)
      have hj9 : some (w.heap.size + 1 + 1) ≠ Value.ownBlock (.slice da ds.length dc) := own_ne HO.out.2 (by omega)
      have hk8 : some (w.heap.size + 1) ≠ Value.ownBlock (.slice ea es.length ec) := own_ne HO.out.1 (by omega)
      have hj8 : some (w.heap.size + 1) ≠ Value.ownBlock (.slice da ds.length dc) := own_ne HO.out.2 (by omega)
      have hWz := HH.out.size
      have s9 := HH.out.s9.kept (htwo.other _ (by omega) hk9 hj9)
      have s8 := HH.out.s8.kept (htwo.other _ (by omega) hk8 hj8)
      have k0 := s9.c0
      have k1 := s9.c1
      have HS : Hid (Six wr (w.heap.size + 1) (.string { data := #[] }) (.bool false) (.slice none 0 0) (.slice none 0 0) (.bool false) (.bool false) ∧ Six wr (w.heap.size + 1 + 1) (.string rest) (.bool false) (.slice none 0 0) (.slice none 0 0) (.bool false) (.bool sl)) := ⟨s8, s9⟩
      have HT : Hid (Two W wr B 3 (.slice ea es.length ec) es.length (.slice a1 E.length c1) E.length (icells E) 5 (.slice da ds.length dc) ds.length (.slice a2 D.length c2) D.length (bcells D)) := htwo
      have HF : Hid (segsFrom rest.data.toList 0 = done ++ segsFrom rest.data.toList st ∧ done.length ≤ room depth es.length ∧ (E, D) = fold false rest.data.toList es ds done ∧ E.length = es.length + done.length) := ⟨hseg, hdl, hfold, hE⟩
      have hEb : E.length ≤ 1100000 := by omega
      have hDb : D.length ≤ 1400000 := by omega
      have hrz : B ≤ wr.heap.size := Nat.le_trans hWB HT.out.bel.size
      clear hk9 hj9 hk8 hj8 hWz s9 s8 htwo hseg hdl hfold hsh1 hsh2 hrl hE
      by_cases h1 : st < rest.size
      · by_cases h2 : (E.length : Int) < depth
        · go_wp2_with fail
          refine (index_any (rest.extract st rest.size) 47 47 (by decide) wr).mono ?_
          rintro e w' ⟨r, rfl, hr, rfl⟩
          rw [ext_drop] at hr
          have hpl : (rest.data.toList.drop st).length = rest.size - st := by simp
          rcases hr with ⟨rfl, hp, hni⟩ | ⟨rfl, hp, hat, hno⟩
          · have HQ : Hid (rest.size = st + pre 47 (rest.data.toList.drop st)) := by show _ = _; omega
            clear hp hni hpl
            go_wp2_with (at_builtin; refine wpList_append_grew rfl (.tmp 84) (.tmp 86) 23 rfl B 3 i3 (.int .i64 0) 8 Try.underlying23 hi3 hy0 hy1 hy2 rfl _ E.length _ rfl (own_below HT.out.own1 (bel_alloc _ _)) ⟨w'.heap.size, 0, none⟩ 1 1 [.int .i64 (rest.size : Int)] rfl rfl (cell_one_at rfl) one_cell (by unfold maxLen; omega) (by omega) (by simp; omega) ?_)
            intro v2 w2 hg2
            have HT2 : Hid (Two W w2 B 3 (.slice ea es.length ec) es.length v2 (E.length + 1) (icells E ++ [.int .i64 (rest.size : Int)]) 5 (.slice da ds.length dc) ds.length (.slice a2 D.length c2) D.length (bcells D)) := (HT.out.post (bel_alloc _ _) hrz).step1 hg2 (by omega) (by decide) (by simp; omega)
            clear hg2
            go_wp2_with fail
            go_roundw
            case rel =>
              refine ⟨done ++ [(st, rest.size)], rest.size + 1, E ++ [(rest.size : Int)], D, by simp, seg_next HF.out.1 (by simpa using h1) HQ.out, ?_, ?_, ?_, ?_, ?_, ?_, ?_⟩
              · have := room_next (k := es.length) (d := done.length) (depth := depth) (by rw [← HF.out.2.2.2]; exact h2)
                simpa using this
              · rw [fold_snoc, ← HF.out.2.2.1]; rfl
              · have := HF.out.2.2.2; simp; omega
              · simp; omega
              · simp
              · omega
              · rw [show (E ++ [(rest.size : Int)]).length = E.length + 1 by simp, icells_app]; exact HT2.out
            case measure => simp [intOf]; omega
          · obtain ⟨p, hpp⟩ : ∃ p, p = pre 47 (rest.data.toList.drop st) := ⟨_, rfl⟩
            rw [← hpp] at hp ⊢
            rw [hpl] at hp
            have HQ : Hid (p + st = st + pre 47 (rest.data.toList.drop st)) := by show _ = _; omega
            clear hat hno hpl hpp
            go_wp2_with (at_builtin; refine wpList_append_grew rfl (.tmp 84) (.tmp 86) 23 rfl B 3 i3 (.int .i64 0) 8 Try.underlying23 hi3 hy0 hy1 hy2 rfl _ E.length _ rfl (own_below HT.out.own1 (bel_alloc _ _)) ⟨w'.heap.size, 0, none⟩ 1 1 [.int .i64 ((p : Int) + (st : Int))] rfl rfl (cell_one_at rfl) one_cell (by unfold maxLen; omega) (by omega) (by simp; omega) ?_)
            intro v2 w2 hg2
            have HT2 : Hid (Two W w2 B 3 (.slice ea es.length ec) es.length v2 (E.length + 1) (icells E ++ [.int .i64 ((p : Int) + (st : Int))]) 5 (.slice da ds.length dc) ds.length (.slice a2 D.length c2) D.length (bcells D)) := (HT.out.post (bel_alloc _ _) hrz).step1 hg2 (by omega) (by decide) (by simp; omega)
            clear hg2
            go_wp2_with fail
            go_roundw
            case rel =>
              refine ⟨done ++ [(st, p + st)], p + st + 1, E ++ [((p + st : Nat) : Int)], D, by simp, seg_next HF.out.1 (by simpa using h1) HQ.out, ?_, ?_, ?_, ?_, ?_, ?_, ?_⟩
              · have := room_next (k := es.length) (d := done.length) (depth := depth) (by rw [← HF.out.2.2.2]; exact h2)
                simpa using this
              · rw [fold_snoc, ← HF.out.2.2.1]; rfl
              · have := HF.out.2.2.2; simp; omega
              · simp; omega
              · simp; omega
              · omega
              · rw [show (E ++ [((p + st : Nat) : Int)]).length = E.length + 1 by simp, icells_app]; exact HT2.out
            case measure => simp [intOf]; omega
        · have HE := seg_end HF.out.1 HF.out.2.1 (.inr (by have := HF.out.2.2.2; unfold room; omega))
          have hHE : Hid ((segsFrom rest.data.toList 0).take (room depth es.length) = done ∧ moreOf rest.data.toList (room depth es.length) = decide (st < rest.data.toList.length)) := HE
          clear HE
          have k2 := HS.out.2.c2
          have k3 := HS.out.2.c3
          have k4 := HS.out.2.c4
          have k5 := HS.out.2.c5
          have f9 := HS.out.2.fz
          have f8 := HS.out.1.fz
          have j0 := HS.out.1.c0
          have j1 := HS.out.1.c1
          have j2 := HS.out.1.c2
          have j3 := HS.out.1.c3
          have j4 := HS.out.1.c4
          have j5 := HS.out.1.c5
          go_wp2_with fail
          refine bodyPost_ret (v := .agg #[.string rest, .bool false, .slice a2 D.length c2, .slice a1 E.length c1, .bool true, .bool sl]) (by simp [results, Try.results15, go_sem, j0, j1, j2, j3, j4, j5]) rfl ?_
          exact split_done HR.out HSL.out hB HH.out HT.out HS.out.1 HS.out.2 hHE.out HF.out.2.2.1 (by simp; exact h1) ..
      · have hHE : Hid ((segsFrom rest.data.toList 0).take (room depth es.length) = done ∧ moreOf rest.data.toList (room depth es.length) = decide (st < rest.data.toList.length)) := seg_end HF.out.1 HF.out.2.1 (.inl (by simp; omega))
        have k2 := HS.out.2.c2
        have k3 := HS.out.2.c3
        have k4 := HS.out.2.c4
        have k5 := HS.out.2.c5
        have f9 := HS.out.2.fz
        have f8 := HS.out.1.fz
        have j0 := HS.out.1.c0
        have j1 := HS.out.1.c1
        have j2 := HS.out.1.c2
        have j3 := HS.out.1.c3
        have j4 := HS.out.1.c4
        have j5 := HS.out.1.c5
        go_wp2_with fail
        refine bodyPost_ret (v := .agg #[.string rest, .bool false, .slice a2 D.length c2, .slice a1 E.length c1, .bool false, .bool sl]) (by simp [results, Try.results15, go_sem, j0, j1, j2, j3, j4, j5]) rfl ?_
        exact split_done HR.out HSL.out hB HH.out HT.out HS.out.1 HS.out.2 hHE.out HF.out.2.2.1 (by simp; omega) ..

end Go.Proofs.Qxb6606428a
