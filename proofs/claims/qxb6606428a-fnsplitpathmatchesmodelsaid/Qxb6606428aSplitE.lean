/-
  splitPath, decoding.
-/
import Derived.Test.Qxb6606428aSplit
namespace Go.Proofs.Qxb6606428a
open Go.RowKit
set_option linter.unusedVariables false
set_option linter.unusedSimpArgs false

set_option maxRecDepth 100000 in
set_option maxHeartbeats 3200000 in
theorem split_esc (B : Nat) (text : ByteArray) (eb : Bool) (depth : Int) (es : List Int) (ds : List UInt8) (ea da : Option Addr) (ec dc : Nat) (w : World)
    (hoe : w.ownsRow B 3 1 (.slice ea es.length ec) es.length (icells es)) (hod : w.ownsRow B 5 1 (.slice da ds.length dc) ds.length (bcells ds))
    (ht : 1 ≤ text.size) (hts : text.size ≤ 1048576) (hde : es.length ≤ 32768) (hdd : ds.length ≤ 262144) (hB : B ≤ w.heap.size) (hd : -9223372036854775808 ≤ depth ∧ depth ≤ 9223372036854775807) (hesc : escOf text eb = true) :
    Calls Try.prog 15 #[.agg #[.string text, .bool eb], .int .i64 depth, .slice ea es.length ec, .slice da ds.length dc] w (SPost B text true depth es ds (.slice ea es.length ec) (.slice da ds.length dc) w) := by
  obtain ⟨i0, hi, hz0, hz1, hz2⟩ := info_parts Try.info5
  obtain ⟨i3, hi3, hy0, hy1, hy2⟩ := info_parts Try.info3
  have HO : Hid (w.ownsRow B 3 1 (.slice ea es.length ec) es.length (icells es) ∧ w.ownsRow B 5 1 (.slice da ds.length dc) ds.length (bcells ds)) := ⟨hoe, hod⟩
  clear hoe hod
  obtain ⟨rest, hrest⟩ : ∃ rest, text.extract 1 text.size = rest := ⟨_, rfl⟩
  have HR : Hid (restOf text = rest) := hrest
  have hrs : rest.size ≤ 1048576 := by rw [← hrest]; simp; omega
  obtain ⟨sl, hsl⟩ : ∃ sl, endsS rest = sl := ⟨_, rfl⟩
  have HSL : Hid (sl = endsS rest) := hsl.symm
  go_enter Try.func15, Try.ntmps15
  cases eb
  · simp [escOf] at hesc
  · have hni : (37 : UInt8) ∈ text.data.toList := by simpa [escOf] using hesc
    clear hesc
    go_wp2_with fail
    refine (index_any text 37 37 (by decide) _).mono ?_
    rintro e w' ⟨r, rfl, hr, rfl⟩
    have hr0 : 0 ≤ r := by
      rcases hr with ⟨_, _, h⟩ | ⟨h, _⟩
      · exact absurd hni h
      · omega
    clear hr hni
    go_wp2_with fail
    refine (suffix_any rest _ (by omega)).mono ?_
    rintro e w' ⟨rfl, rfl⟩
    clear hrest ht hts
    rw [hsl]
    clear hsl
    go_wp2_with fail
    have hhd := head_new w rest true sl (Obj.cells #[Value.string text, Value.bool true] 38)
    revert hhd
    generalize (((w.alloc (Obj.cells #[Value.string text, Value.bool true] 38)).alloc (Obj.cells #[Value.string { data := #[] }, Value.bool false, Value.slice none 0 0, Value.slice none 0 0, Value.bool false, Value.bool false] 35)).alloc
      (Obj.cells #[Value.string rest, Value.bool true, Value.slice none 0 0, Value.slice none 0 0, Value.bool false, Value.bool sl] 35)) = W
    intro hhd
    have HH : Hid (Head w W rest true sl) := hhd
    clear hhd
    have hWB : B ≤ W.heap.size := by have := HH.out.size; omega
    go_loopw [2, 3, 10] (fun ev dv iv wr => SRel B rest.data.toList true depth es ds (.slice ea es.length ec) (.slice da ds.length dc) W ev dv iv wr) (fun _ _ iv _ => rest.size + 1 - (intOf iv).toNat)
    case atStart => exact ⟨[], 0, es, ds, rfl, rfl, Nat.zero_le _, rfl, rfl, Nat.le_refl _, Nat.zero_le _, Nat.le_refl _, Two.refl (own_below HO.out.1 HH.out.bel) (own_below HO.out.2 HH.out.bel)⟩
    case round =>
      obtain ⟨done, st, E, D, rfl, hseg, hdl, hfold, hE, hdst, hst, hD, htwo⟩ := hrel
      obtain ⟨a1, c1, rfl, hsh1⟩ := own_shape htwo.own1
      obtain ⟨a2, c2, rfl, hsh2⟩ := own_shape htwo.own2
      have hrl : rest.data.toList.length = rest.size := by simp
      rw [hrl] at hst
      have hk9 : some (w.heap.size + 1 + 1) ≠ Value.ownBlock (.slice ea es.length ec) := own_ne HO.out.1 (by omega)
      have hj9 : some (w.heap.size + 1 + 1) ≠ Value.ownBlock (.slice da ds.length dc) := own_ne HO.out.2 (by omega)
      have hk8 : some (w.heap.size + 1) ≠ Value.ownBlock (.slice ea es.length ec) := own_ne HO.out.1 (by omega)
      have hj8 : some (w.heap.size + 1) ≠ Value.ownBlock (.slice da ds.length dc) := own_ne HO.out.2 (by omega)
      have hWz := HH.out.size
      have s9 := HH.out.s9.kept (htwo.other _ (by omega) hk9 hj9)
      have s8 := HH.out.s8.kept (htwo.other _ (by omega) hk8 hj8)
      have k0 := s9.c0
      have k1 := s9.c1
      have HS : Hid (Six wr (w.heap.size + 1) (.string { data := #[] }) (.bool false) (.slice none 0 0) (.slice none 0 0) (.bool false) (.bool false) ∧ Six wr (w.heap.size + 1 + 1) (.string rest) (.bool true) (.slice none 0 0) (.slice none 0 0) (.bool false) (.bool sl)) := ⟨s8, s9⟩
      have HT : Hid (Two W wr B 3 (.slice ea es.length ec) es.length (.slice a1 E.length c1) E.length (icells E) 5 (.slice da ds.length dc) ds.length (.slice a2 D.length c2) D.length (bcells D)) := htwo
      have HF : Hid (segsFrom rest.data.toList 0 = done ++ segsFrom rest.data.toList st ∧ done.length ≤ room depth es.length ∧ (E, D) = fold true rest.data.toList es ds done ∧ E.length = es.length + done.length) := ⟨hseg, hdl, hfold, hE⟩
      have hEb : E.length ≤ 1100000 := by omega
      have hDb : D.length ≤ 1400000 := by omega
      have hrz : B ≤ wr.heap.size := Nat.le_trans hWB HT.out.bel.size
      obtain ⟨n, hn⟩ : ∃ n, E.length = n := ⟨_, rfl⟩
      have HN : Hid (E.length = n) := hn
      rw [hn] at HT hEb ⊢
      clear hk9 hj9 hk8 hj8 hWz s9 s8 htwo hseg hdl hfold hsh1 hsh2 hrl hE hn
      by_cases h1 : st < rest.size
      · by_cases h2 : (n : Int) < depth
        · go_wp2_with fail
          refine (index_any (rest.extract st rest.size) 47 47 (by decide) wr).mono ?_
          rintro e w' ⟨r, rfl, hr, rfl⟩
          rw [ext_drop] at hr
          have hpl : (rest.data.toList.drop st).length = rest.size - st := by simp
          rcases hr with ⟨rfl, hp, hni⟩ | ⟨rfl, hp, hat, hno⟩
          · have HQ : Hid (rest.size = st + pre 47 (rest.data.toList.drop st)) := by show _ = _; omega
            clear hp hni hpl
            obtain ⟨sg, hsg⟩ : ∃ sg, rest.extract st rest.size = sg := ⟨_, rfl⟩
            have hsz : sg.size ≤ rest.size - st := by rw [← hsg]; simp; try omega
            have HSG : Hid (sg.data.toList = seg rest.data.toList (st, rest.size)) := by
              rw [← hsg]
              show _ = _
              rw [ByteArray.data_extract, Array.toList_extract, List.extract_eq_take_drop]; rfl
            have hsp : Hid ((sep E).length = if n = 0 then 0 else 1) := by
              show _ = _
              rw [← HN.out]; unfold sep; split <;> rfl
            by_cases hn0 : 0 < n
            · have HSE : Hid (sep E = [47]) := by show _ = _; unfold sep; rw [if_neg (by rw [HN.out]; omega)]
              go_wp2_with (at_builtin; refine wpList_append_grew rfl (.tmp 65) (.tmp 66) 24 rfl B 5 i0 (.int .u8 0) 1 Try.underlying24 hi hz0 hz1 hz2 rfl _ D.length _ rfl (own_below HT.out.own2 (bel_alloc _ _)) ⟨w'.heap.size, 0, none⟩ 1 1 [.int .u8 47] rfl rfl (cell_one_at rfl) one_cell (by unfold maxLen; omega) (by omega) (by simp; omega) ?_)
              intro v2 w2 hg2
              have ht2 := (HT.out.post (bel_alloc _ _) hrz).step2 hg2 (by omega) (by decide) (by simp; omega)
              clear hg2
              obtain ⟨a3, c3, rfl, _⟩ := own_shape ht2.own2
              have e47 : bcells D ++ [.int .u8 47] = bcells (D ++ sep E) := by rw [HSE.out, bcells_app]; rfl
              rw [e47] at ht2
              obtain ⟨D1, hD1⟩ : ∃ D1, D ++ sep E = D1 := ⟨_, rfl⟩
              have hl1 : D1.length = D.length + 1 := by rw [← hD1, HSE.out]; simp
              rw [hD1, ← hl1] at ht2
              rw [← hl1]
              have HD1 : Hid (D ++ sep E = D1 ∧ D1.length ≤ D.length + 1) := ⟨hD1, by omega⟩
              have hd1 : D1.length ≤ 1500000 := by omega
              clear hD1 hl1 e47 HSE hsp
              have HT2 : Hid (Two W w2 B 3 (.slice ea es.length ec) es.length (.slice a1 n c1) n (icells E) 5 (.slice da ds.length dc) ds.length (.slice a3 D1.length c3) D1.length (bcells D1)) := ht2
              clear ht2
              have hrz2 : B ≤ w2.heap.size := Nat.le_trans hWB HT2.out.bel.size
              go_wp2_with fail
              refine (unescaped_any B a3 c3 D1 sg w2 HT2.out.own2 (by omega) (by omega) hrz2).mono ?_
              rintro e w3 ⟨v3, rfl, hg3⟩
              have ht3 := HT2.out.step2 hg3 (by simp) (by decide) hrz2
              clear hg3
              obtain ⟨a4, c4, rfl, _⟩ := own_shape ht3.own2
              obtain ⟨bs, hbs⟩ : ∃ bs, (unesc sg.data.toList).isSome = bs := ⟨_, rfl⟩
              rw [hbs]
              cases bs
              · have HU : Hid (outOf sg.data.toList = [] ∧ dec sg.data.toList = sg.data.toList) := by
                  have e0 : unesc sg.data.toList = none := by simpa using hbs
                  exact ⟨by unfold outOf; rw [e0]; rfl, by unfold dec; rw [e0]; rfl⟩
                rw [HU.out.1, List.append_nil] at ht3
                have e5 : (D1 ++ outOf sg.data.toList).length = D1.length := by rw [HU.out.1, List.append_nil]
                rw [e5]
                have HT3 : Hid (Two W w3 B 3 (.slice ea es.length ec) es.length (.slice a1 n c1) n (icells E) 5 (.slice da ds.length dc) ds.length (.slice a4 D1.length c4) D1.length (bcells D1)) := ht3
                have hrz3 : B ≤ w3.heap.size := Nat.le_trans hWB HT3.out.bel.size
                clear ht3 hbs e5
                go_wp2_with (at_builtin; refine wpList_append_grew_str rfl (.tmp 76) (.tmp 77) 24 9 rfl B 5 i0 Try.underlying24 Try.underlying9 hi hz0 hz1 hz2 _ D1.length _ rfl HT3.out.own2 sg rfl (by unfold maxLen; omega) (by omega) hrz3 ?_)
                intro v5 w5 hg5
                have ht5 := HT3.out.step2 hg5 (by omega) (by decide) hrz3
                clear hg5
                obtain ⟨a6, c6, rfl, _⟩ := own_shape ht5.own2
                obtain ⟨D2, hD2⟩ : ∃ D2, D1 ++ sg.data.toList = D2 := ⟨_, rfl⟩
                have hl2 : D1.length + sg.size = D2.length := by rw [← hD2]; simp
                rw [strCells_eq, ← bcells_app, hD2, hl2] at ht5
                rw [hl2]
                have HD2 : Hid (D ++ sep E ++ dec (seg rest.data.toList (st, rest.size)) = D2 ∧ D2.length ≤ D.length + (rest.size + 1 - st)) := ⟨by rw [HD1.out.1, ← HSG.out, HU.out.2]; exact hD2, by have := HD1.out.2; omega⟩
                have hd2 : D2.length ≤ 3000000 := by omega
                have HT5 : Hid (Two W w5 B 3 (.slice ea es.length ec) es.length (.slice a1 n c1) n (icells E) 5 (.slice da ds.length dc) ds.length (.slice a6 D2.length c6) D2.length (bcells D2)) := ht5
                have hrz5 : B ≤ w5.heap.size := Nat.le_trans hWB HT5.out.bel.size
                clear ht5 hD2 hl2
                go_wp2_with (at_builtin; refine wpList_append_grew rfl (.tmp 79) (.tmp 82) 23 rfl B 3 i3 (.int .i64 0) 8 Try.underlying23 hi3 hy0 hy1 hy2 rfl _ n _ rfl (own_below HT5.out.own1 (bel_alloc _ _)) ⟨w5.heap.size, 0, none⟩ 1 1 [.int .i64 (D2.length : Int)] rfl rfl (cell_one_at rfl) one_cell (by unfold maxLen; omega) (by omega) (by simp; omega) ?_)
                intro v7 w7 hg7
                have HT7 : Hid (Two W w7 B 3 (.slice ea es.length ec) es.length v7 (n + 1) (icells E ++ [.int .i64 (D2.length : Int)]) 5 (.slice da ds.length dc) ds.length _ D2.length (bcells D2)) := (HT5.out.post (bel_alloc _ _) hrz5).step1 hg7 (by omega) (by decide) (by simp; omega)
                clear hg7
                go_wp2_with fail
                go_roundw
                case rel =>
                  refine ⟨done ++ [(st, rest.size)], rest.size + 1, E ++ [(D2.length : Int)], D2, by simp, seg_next HF.out.1 (by simpa using h1) HQ.out, ?_, ?_, ?_, ?_, ?_, ?_, ?_⟩
                  · have := room_next (k := es.length) (d := done.length) (depth := depth) (by rw [← HF.out.2.2.2, HN.out]; exact h2)
                    simpa using this
                  · rw [fold_snoc, ← HF.out.2.2.1, stp, if_pos rfl, HD2.out.1]
                  · have := HF.out.2.2.2; simp; omega
                  · simp; omega
                  · simp; try omega
                  · have := HD2.out.2; omega
                  · rw [show (E ++ [(D2.length : Int)]).length = n + 1 by rw [List.length_append, HN.out]; rfl, icells_app]; exact HT7.out
                case measure => simp [intOf]; omega
              · obtain ⟨D2, hD2⟩ : ∃ D2, D1 ++ outOf sg.data.toList = D2 := ⟨_, rfl⟩
                have hU : outOf sg.data.toList = dec sg.data.toList := by
                  unfold outOf dec
                  cases hx : unesc sg.data.toList with
                  | none => rw [hx] at hbs; cases hbs
                  | some x => rfl
                have hl2 : D2.length ≤ D1.length + sg.size := by
                  rw [← hD2, hU]
                  have := dec_length sg.data.toList
                  simp at this
                  simp
                  omega
                rw [hD2] at ht3 ⊢
                have HD2 : Hid (D ++ sep E ++ dec (seg rest.data.toList (st, rest.size)) = D2 ∧ D2.length ≤ D.length + (rest.size + 1 - st)) := ⟨by rw [HD1.out.1, ← HSG.out, ← hU]; exact hD2, by have := HD1.out.2; omega⟩
                have hd2 : D2.length ≤ 3000000 := by omega
                have HT5 : Hid (Two W w3 B 3 (.slice ea es.length ec) es.length (.slice a1 n c1) n (icells E) 5 (.slice da ds.length dc) ds.length (.slice a4 D2.length c4) D2.length (bcells D2)) := ht3
                have hrz5 : B ≤ w3.heap.size := Nat.le_trans hWB HT5.out.bel.size
                clear ht3 hD2 hl2 hbs hU
                go_wp2_with (at_builtin; refine wpList_append_grew rfl (.tmp 79) (.tmp 82) 23 rfl B 3 i3 (.int .i64 0) 8 Try.underlying23 hi3 hy0 hy1 hy2 rfl _ n _ rfl (own_below HT5.out.own1 (bel_alloc _ _)) ⟨w3.heap.size, 0, none⟩ 1 1 [.int .i64 (D2.length : Int)] rfl rfl (cell_one_at rfl) one_cell (by unfold maxLen; omega) (by omega) (by simp; omega) ?_)
                intro v7 w7 hg7
                have HT7 : Hid (Two W w7 B 3 (.slice ea es.length ec) es.length v7 (n + 1) (icells E ++ [.int .i64 (D2.length : Int)]) 5 (.slice da ds.length dc) ds.length _ D2.length (bcells D2)) := (HT5.out.post (bel_alloc _ _) hrz5).step1 hg7 (by omega) (by decide) (by simp; omega)
                clear hg7
                go_wp2_with fail
                go_roundw
                case rel =>
                  refine ⟨done ++ [(st, rest.size)], rest.size + 1, E ++ [(D2.length : Int)], D2, by simp, seg_next HF.out.1 (by simpa using h1) HQ.out, ?_, ?_, ?_, ?_, ?_, ?_, ?_⟩
                  · have := room_next (k := es.length) (d := done.length) (depth := depth) (by rw [← HF.out.2.2.2, HN.out]; exact h2)
                    simpa using this
                  · rw [fold_snoc, ← HF.out.2.2.1, stp, if_pos rfl, HD2.out.1]
                  · have := HF.out.2.2.2; simp; omega
                  · simp; omega
                  · simp; try omega
                  · have := HD2.out.2; omega
                  · rw [show (E ++ [(D2.length : Int)]).length = n + 1 by rw [List.length_append, HN.out]; rfl, icells_app]; exact HT7.out
                case measure => simp [intOf]; omega
            · have HSE : Hid (sep E = []) := by show _ = _; unfold sep; rw [if_pos (by rw [HN.out]; omega)]
              obtain ⟨D1, hD1⟩ : ∃ D1, D = D1 := ⟨_, rfl⟩
              subst hD1
              have HD1 : Hid (D ++ sep E = D ∧ D.length ≤ D.length + 1) := ⟨by rw [HSE.out]; simp, by omega⟩
              have hd1 : D.length ≤ 1500000 := by omega
              clear HSE hsp
              have HT2 : Hid (Two W w' B 3 (.slice ea es.length ec) es.length (.slice a1 n c1) n (icells E) 5 (.slice da ds.length dc) ds.length (.slice a2 D.length c2) D.length (bcells D)) := HT.out
              have hrz2 : B ≤ w'.heap.size := Nat.le_trans hWB HT2.out.bel.size
              go_wp2_with fail
              refine (unescaped_any B a2 c2 D sg w' HT2.out.own2 (by omega) (by omega) hrz2).mono ?_
              rintro e w3 ⟨v3, rfl, hg3⟩
              have ht3 := HT2.out.step2 hg3 (by simp) (by decide) hrz2
              clear hg3
              obtain ⟨a4, c4, rfl, _⟩ := own_shape ht3.own2
              obtain ⟨bs, hbs⟩ : ∃ bs, (unesc sg.data.toList).isSome = bs := ⟨_, rfl⟩
              rw [hbs]
              cases bs
              · have HU : Hid (outOf sg.data.toList = [] ∧ dec sg.data.toList = sg.data.toList) := by
                  have e0 : unesc sg.data.toList = none := by simpa using hbs
                  exact ⟨by unfold outOf; rw [e0]; rfl, by unfold dec; rw [e0]; rfl⟩
                rw [HU.out.1, List.append_nil] at ht3
                have e5 : (D ++ outOf sg.data.toList).length = D.length := by rw [HU.out.1, List.append_nil]
                rw [e5]
                have HT3 : Hid (Two W w3 B 3 (.slice ea es.length ec) es.length (.slice a1 n c1) n (icells E) 5 (.slice da ds.length dc) ds.length (.slice a4 D.length c4) D.length (bcells D)) := ht3
                have hrz3 : B ≤ w3.heap.size := Nat.le_trans hWB HT3.out.bel.size
                clear ht3 hbs e5
                go_wp2_with (at_builtin; refine wpList_append_grew_str rfl (.tmp 76) (.tmp 77) 24 9 rfl B 5 i0 Try.underlying24 Try.underlying9 hi hz0 hz1 hz2 _ D.length _ rfl HT3.out.own2 sg rfl (by unfold maxLen; omega) (by omega) hrz3 ?_)
                intro v5 w5 hg5
                have ht5 := HT3.out.step2 hg5 (by omega) (by decide) hrz3
                clear hg5
                obtain ⟨a6, c6, rfl, _⟩ := own_shape ht5.own2
                obtain ⟨D2, hD2⟩ : ∃ D2, D ++ sg.data.toList = D2 := ⟨_, rfl⟩
                have hl2 : D.length + sg.size = D2.length := by rw [← hD2]; simp
                rw [strCells_eq, ← bcells_app, hD2, hl2] at ht5
                rw [hl2]
                have HD2 : Hid (D ++ sep E ++ dec (seg rest.data.toList (st, rest.size)) = D2 ∧ D2.length ≤ D.length + (rest.size + 1 - st)) := ⟨by rw [HD1.out.1, ← HSG.out, HU.out.2]; exact hD2, by have := HD1.out.2; omega⟩
                have hd2 : D2.length ≤ 3000000 := by omega
                have HT5 : Hid (Two W w5 B 3 (.slice ea es.length ec) es.length (.slice a1 n c1) n (icells E) 5 (.slice da ds.length dc) ds.length (.slice a6 D2.length c6) D2.length (bcells D2)) := ht5
                have hrz5 : B ≤ w5.heap.size := Nat.le_trans hWB HT5.out.bel.size
                clear ht5 hD2 hl2
                go_wp2_with (at_builtin; refine wpList_append_grew rfl (.tmp 79) (.tmp 82) 23 rfl B 3 i3 (.int .i64 0) 8 Try.underlying23 hi3 hy0 hy1 hy2 rfl _ n _ rfl (own_below HT5.out.own1 (bel_alloc _ _)) ⟨w5.heap.size, 0, none⟩ 1 1 [.int .i64 (D2.length : Int)] rfl rfl (cell_one_at rfl) one_cell (by unfold maxLen; omega) (by omega) (by simp; omega) ?_)
                intro v7 w7 hg7
                have HT7 : Hid (Two W w7 B 3 (.slice ea es.length ec) es.length v7 (n + 1) (icells E ++ [.int .i64 (D2.length : Int)]) 5 (.slice da ds.length dc) ds.length _ D2.length (bcells D2)) := (HT5.out.post (bel_alloc _ _) hrz5).step1 hg7 (by omega) (by decide) (by simp; omega)
                clear hg7
                go_wp2_with fail
                go_roundw
                case rel =>
                  refine ⟨done ++ [(st, rest.size)], rest.size + 1, E ++ [(D2.length : Int)], D2, by simp, seg_next HF.out.1 (by simpa using h1) HQ.out, ?_, ?_, ?_, ?_, ?_, ?_, ?_⟩
                  · have := room_next (k := es.length) (d := done.length) (depth := depth) (by rw [← HF.out.2.2.2, HN.out]; exact h2)
                    simpa using this
                  · rw [fold_snoc, ← HF.out.2.2.1, stp, if_pos rfl, HD2.out.1]
                  · have := HF.out.2.2.2; simp; omega
                  · simp; omega
                  · simp; try omega
                  · have := HD2.out.2; omega
                  · rw [show (E ++ [(D2.length : Int)]).length = n + 1 by rw [List.length_append, HN.out]; rfl, icells_app]; exact HT7.out
                case measure => simp [intOf]; omega
              · obtain ⟨D2, hD2⟩ : ∃ D2, D ++ outOf sg.data.toList = D2 := ⟨_, rfl⟩
                have hU : outOf sg.data.toList = dec sg.data.toList := by
                  unfold outOf dec
                  cases hx : unesc sg.data.toList with
                  | none => rw [hx] at hbs; cases hbs
                  | some x => rfl
                have hl2 : D2.length ≤ D.length + sg.size := by
                  rw [← hD2, hU]
                  have := dec_length sg.data.toList
                  simp at this
                  simp
                  omega
                rw [hD2] at ht3 ⊢
                have HD2 : Hid (D ++ sep E ++ dec (seg rest.data.toList (st, rest.size)) = D2 ∧ D2.length ≤ D.length + (rest.size + 1 - st)) := ⟨by rw [HD1.out.1, ← HSG.out, ← hU]; exact hD2, by have := HD1.out.2; omega⟩
                have hd2 : D2.length ≤ 3000000 := by omega
                have HT5 : Hid (Two W w3 B 3 (.slice ea es.length ec) es.length (.slice a1 n c1) n (icells E) 5 (.slice da ds.length dc) ds.length (.slice a4 D2.length c4) D2.length (bcells D2)) := ht3
                have hrz5 : B ≤ w3.heap.size := Nat.le_trans hWB HT5.out.bel.size
                clear ht3 hD2 hl2 hbs hU
                go_wp2_with (at_builtin; refine wpList_append_grew rfl (.tmp 79) (.tmp 82) 23 rfl B 3 i3 (.int .i64 0) 8 Try.underlying23 hi3 hy0 hy1 hy2 rfl _ n _ rfl (own_below HT5.out.own1 (bel_alloc _ _)) ⟨w3.heap.size, 0, none⟩ 1 1 [.int .i64 (D2.length : Int)] rfl rfl (cell_one_at rfl) one_cell (by unfold maxLen; omega) (by omega) (by simp; omega) ?_)
                intro v7 w7 hg7
                have HT7 : Hid (Two W w7 B 3 (.slice ea es.length ec) es.length v7 (n + 1) (icells E ++ [.int .i64 (D2.length : Int)]) 5 (.slice da ds.length dc) ds.length _ D2.length (bcells D2)) := (HT5.out.post (bel_alloc _ _) hrz5).step1 hg7 (by omega) (by decide) (by simp; omega)
                clear hg7
                go_wp2_with fail
                go_roundw
                case rel =>
                  refine ⟨done ++ [(st, rest.size)], rest.size + 1, E ++ [(D2.length : Int)], D2, by simp, seg_next HF.out.1 (by simpa using h1) HQ.out, ?_, ?_, ?_, ?_, ?_, ?_, ?_⟩
                  · have := room_next (k := es.length) (d := done.length) (depth := depth) (by rw [← HF.out.2.2.2, HN.out]; exact h2)
                    simpa using this
                  · rw [fold_snoc, ← HF.out.2.2.1, stp, if_pos rfl, HD2.out.1]
                  · have := HF.out.2.2.2; simp; omega
                  · simp; omega
                  · simp; try omega
                  · have := HD2.out.2; omega
                  · rw [show (E ++ [(D2.length : Int)]).length = n + 1 by rw [List.length_append, HN.out]; rfl, icells_app]; exact HT7.out
                case measure => simp [intOf]; omega
          · obtain ⟨p, hpp⟩ : ∃ p, p = pre 47 (rest.data.toList.drop st) := ⟨_, rfl⟩
            rw [← hpp] at hp ⊢
            rw [hpl] at hp
            have HQ : Hid (p + st = st + pre 47 (rest.data.toList.drop st)) := by show _ = _; omega
            clear hat hno hpl hpp
            obtain ⟨sg, hsg⟩ : ∃ sg, rest.extract st (p + st) = sg := ⟨_, rfl⟩
            have hsz : sg.size ≤ (p + st) - st := by rw [← hsg]; simp; try omega
            have HSG : Hid (sg.data.toList = seg rest.data.toList (st, (p + st))) := by
              rw [← hsg]
              show _ = _
              rw [ByteArray.data_extract, Array.toList_extract, List.extract_eq_take_drop]; rfl
            have hsp : Hid ((sep E).length = if n = 0 then 0 else 1) := by
              show _ = _
              rw [← HN.out]; unfold sep; split <;> rfl
            by_cases hn0 : 0 < n
            · have HSE : Hid (sep E = [47]) := by show _ = _; unfold sep; rw [if_neg (by rw [HN.out]; omega)]
              go_wp2_with (at_builtin; refine wpList_append_grew rfl (.tmp 65) (.tmp 66) 24 rfl B 5 i0 (.int .u8 0) 1 Try.underlying24 hi hz0 hz1 hz2 rfl _ D.length _ rfl (own_below HT.out.own2 (bel_alloc _ _)) ⟨w'.heap.size, 0, none⟩ 1 1 [.int .u8 47] rfl rfl (cell_one_at rfl) one_cell (by unfold maxLen; omega) (by omega) (by simp; omega) ?_)
              intro v2 w2 hg2
              have ht2 := (HT.out.post (bel_alloc _ _) hrz).step2 hg2 (by omega) (by decide) (by simp; omega)
              clear hg2
              obtain ⟨a3, c3, rfl, _⟩ := own_shape ht2.own2
              have e47 : bcells D ++ [.int .u8 47] = bcells (D ++ sep E) := by rw [HSE.out, bcells_app]; rfl
              rw [e47] at ht2
              obtain ⟨D1, hD1⟩ : ∃ D1, D ++ sep E = D1 := ⟨_, rfl⟩
              have hl1 : D1.length = D.length + 1 := by rw [← hD1, HSE.out]; simp
              rw [hD1, ← hl1] at ht2
              rw [← hl1]
              have HD1 : Hid (D ++ sep E = D1 ∧ D1.length ≤ D.length + 1) := ⟨hD1, by omega⟩
              have hd1 : D1.length ≤ 1500000 := by omega
              clear hD1 hl1 e47 HSE hsp
              have HT2 : Hid (Two W w2 B 3 (.slice ea es.length ec) es.length (.slice a1 n c1) n (icells E) 5 (.slice da ds.length dc) ds.length (.slice a3 D1.length c3) D1.length (bcells D1)) := ht2
              clear ht2
              have hrz2 : B ≤ w2.heap.size := Nat.le_trans hWB HT2.out.bel.size
              go_wp2_with fail
              refine (unescaped_any B a3 c3 D1 sg w2 HT2.out.own2 (by omega) (by omega) hrz2).mono ?_
              rintro e w3 ⟨v3, rfl, hg3⟩
              have ht3 := HT2.out.step2 hg3 (by simp) (by decide) hrz2
              clear hg3
              obtain ⟨a4, c4, rfl, _⟩ := own_shape ht3.own2
              obtain ⟨bs, hbs⟩ : ∃ bs, (unesc sg.data.toList).isSome = bs := ⟨_, rfl⟩
              rw [hbs]
              cases bs
              · have HU : Hid (outOf sg.data.toList = [] ∧ dec sg.data.toList = sg.data.toList) := by
                  have e0 : unesc sg.data.toList = none := by simpa using hbs
                  exact ⟨by unfold outOf; rw [e0]; rfl, by unfold dec; rw [e0]; rfl⟩
                rw [HU.out.1, List.append_nil] at ht3
                have e5 : (D1 ++ outOf sg.data.toList).length = D1.length := by rw [HU.out.1, List.append_nil]
                rw [e5]
                have HT3 : Hid (Two W w3 B 3 (.slice ea es.length ec) es.length (.slice a1 n c1) n (icells E) 5 (.slice da ds.length dc) ds.length (.slice a4 D1.length c4) D1.length (bcells D1)) := ht3
                have hrz3 : B ≤ w3.heap.size := Nat.le_trans hWB HT3.out.bel.size
                clear ht3 hbs e5
                go_wp2_with (at_builtin; refine wpList_append_grew_str rfl (.tmp 76) (.tmp 77) 24 9 rfl B 5 i0 Try.underlying24 Try.underlying9 hi hz0 hz1 hz2 _ D1.length _ rfl HT3.out.own2 sg rfl (by unfold maxLen; omega) (by omega) hrz3 ?_)
                intro v5 w5 hg5
                have ht5 := HT3.out.step2 hg5 (by omega) (by decide) hrz3
                clear hg5
                obtain ⟨a6, c6, rfl, _⟩ := own_shape ht5.own2
                obtain ⟨D2, hD2⟩ : ∃ D2, D1 ++ sg.data.toList = D2 := ⟨_, rfl⟩
                have hl2 : D1.length + sg.size = D2.length := by rw [← hD2]; simp
                rw [strCells_eq, ← bcells_app, hD2, hl2] at ht5
                rw [hl2]
                have HD2 : Hid (D ++ sep E ++ dec (seg rest.data.toList (st, (p + st))) = D2 ∧ D2.length ≤ D.length + ((p + st) + 1 - st)) := ⟨by rw [HD1.out.1, ← HSG.out, HU.out.2]; exact hD2, by have := HD1.out.2; omega⟩
                have hd2 : D2.length ≤ 3000000 := by omega
                have HT5 : Hid (Two W w5 B 3 (.slice ea es.length ec) es.length (.slice a1 n c1) n (icells E) 5 (.slice da ds.length dc) ds.length (.slice a6 D2.length c6) D2.length (bcells D2)) := ht5
                have hrz5 : B ≤ w5.heap.size := Nat.le_trans hWB HT5.out.bel.size
                clear ht5 hD2 hl2
                go_wp2_with (at_builtin; refine wpList_append_grew rfl (.tmp 79) (.tmp 82) 23 rfl B 3 i3 (.int .i64 0) 8 Try.underlying23 hi3 hy0 hy1 hy2 rfl _ n _ rfl (own_below HT5.out.own1 (bel_alloc _ _)) ⟨w5.heap.size, 0, none⟩ 1 1 [.int .i64 (D2.length : Int)] rfl rfl (cell_one_at rfl) one_cell (by unfold maxLen; omega) (by omega) (by simp; omega) ?_)
                intro v7 w7 hg7
                have HT7 : Hid (Two W w7 B 3 (.slice ea es.length ec) es.length v7 (n + 1) (icells E ++ [.int .i64 (D2.length : Int)]) 5 (.slice da ds.length dc) ds.length _ D2.length (bcells D2)) := (HT5.out.post (bel_alloc _ _) hrz5).step1 hg7 (by omega) (by decide) (by simp; omega)
                clear hg7
                go_wp2_with fail
                go_roundw
                case rel =>
                  refine ⟨done ++ [(st, (p + st))], (p + st) + 1, E ++ [(D2.length : Int)], D2, by simp, seg_next HF.out.1 (by simpa using h1) HQ.out, ?_, ?_, ?_, ?_, ?_, ?_, ?_⟩
                  · have := room_next (k := es.length) (d := done.length) (depth := depth) (by rw [← HF.out.2.2.2, HN.out]; exact h2)
                    simpa using this
                  · rw [fold_snoc, ← HF.out.2.2.1, stp, if_pos rfl, HD2.out.1]
                  · have := HF.out.2.2.2; simp; omega
                  · simp; omega
                  · simp; try omega
                  · have := HD2.out.2; omega
                  · rw [show (E ++ [(D2.length : Int)]).length = n + 1 by rw [List.length_append, HN.out]; rfl, icells_app]; exact HT7.out
                case measure => simp [intOf]; omega
              · obtain ⟨D2, hD2⟩ : ∃ D2, D1 ++ outOf sg.data.toList = D2 := ⟨_, rfl⟩
                have hU : outOf sg.data.toList = dec sg.data.toList := by
                  unfold outOf dec
                  cases hx : unesc sg.data.toList with
                  | none => rw [hx] at hbs; cases hbs
                  | some x => rfl
                have hl2 : D2.length ≤ D1.length + sg.size := by
                  rw [← hD2, hU]
                  have := dec_length sg.data.toList
                  simp at this
                  simp
                  omega
                rw [hD2] at ht3 ⊢
                have HD2 : Hid (D ++ sep E ++ dec (seg rest.data.toList (st, (p + st))) = D2 ∧ D2.length ≤ D.length + ((p + st) + 1 - st)) := ⟨by rw [HD1.out.1, ← HSG.out, ← hU]; exact hD2, by have := HD1.out.2; omega⟩
                have hd2 : D2.length ≤ 3000000 := by omega
                have HT5 : Hid (Two W w3 B 3 (.slice ea es.length ec) es.length (.slice a1 n c1) n (icells E) 5 (.slice da ds.length dc) ds.length (.slice a4 D2.length c4) D2.length (bcells D2)) := ht3
                have hrz5 : B ≤ w3.heap.size := Nat.le_trans hWB HT5.out.bel.size
                clear ht3 hD2 hl2 hbs hU
                go_wp2_with (at_builtin; refine wpList_append_grew rfl (.tmp 79) (.tmp 82) 23 rfl B 3 i3 (.int .i64 0) 8 Try.underlying23 hi3 hy0 hy1 hy2 rfl _ n _ rfl (own_below HT5.out.own1 (bel_alloc _ _)) ⟨w3.heap.size, 0, none⟩ 1 1 [.int .i64 (D2.length : Int)] rfl rfl (cell_one_at rfl) one_cell (by unfold maxLen; omega) (by omega) (by simp; omega) ?_)
                intro v7 w7 hg7
                have HT7 : Hid (Two W w7 B 3 (.slice ea es.length ec) es.length v7 (n + 1) (icells E ++ [.int .i64 (D2.length : Int)]) 5 (.slice da ds.length dc) ds.length _ D2.length (bcells D2)) := (HT5.out.post (bel_alloc _ _) hrz5).step1 hg7 (by omega) (by decide) (by simp; omega)
                clear hg7
                go_wp2_with fail
                go_roundw
                case rel =>
                  refine ⟨done ++ [(st, (p + st))], (p + st) + 1, E ++ [(D2.length : Int)], D2, by simp, seg_next HF.out.1 (by simpa using h1) HQ.out, ?_, ?_, ?_, ?_, ?_, ?_, ?_⟩
                  · have := room_next (k := es.length) (d := done.length) (depth := depth) (by rw [← HF.out.2.2.2, HN.out]; exact h2)
                    simpa using this
                  · rw [fold_snoc, ← HF.out.2.2.1, stp, if_pos rfl, HD2.out.1]
                  · have := HF.out.2.2.2; simp; omega
                  · simp; omega
                  · simp; try omega
                  · have := HD2.out.2; omega
                  · rw [show (E ++ [(D2.length : Int)]).length = n + 1 by rw [List.length_append, HN.out]; rfl, icells_app]; exact HT7.out
                case measure => simp [intOf]; omega
            · have HSE : Hid (sep E = []) := by show _ = _; unfold sep; rw [if_pos (by rw [HN.out]; omega)]
              obtain ⟨D1, hD1⟩ : ∃ D1, D = D1 := ⟨_, rfl⟩
              subst hD1
              have HD1 : Hid (D ++ sep E = D ∧ D.length ≤ D.length + 1) := ⟨by rw [HSE.out]; simp, by omega⟩
              have hd1 : D.length ≤ 1500000 := by omega
              clear HSE hsp
              have HT2 : Hid (Two W w' B 3 (.slice ea es.length ec) es.length (.slice a1 n c1) n (icells E) 5 (.slice da ds.length dc) ds.length (.slice a2 D.length c2) D.length (bcells D)) := HT.out
              have hrz2 : B ≤ w'.heap.size := Nat.le_trans hWB HT2.out.bel.size
              go_wp2_with fail
              refine (unescaped_any B a2 c2 D sg w' HT2.out.own2 (by omega) (by omega) hrz2).mono ?_
              rintro e w3 ⟨v3, rfl, hg3⟩
              have ht3 := HT2.out.step2 hg3 (by simp) (by decide) hrz2
              clear hg3
              obtain ⟨a4, c4, rfl, _⟩ := own_shape ht3.own2
              obtain ⟨bs, hbs⟩ : ∃ bs, (unesc sg.data.toList).isSome = bs := ⟨_, rfl⟩
              rw [hbs]
              cases bs
              · have HU : Hid (outOf sg.data.toList = [] ∧ dec sg.data.toList = sg.data.toList) := by
                  have e0 : unesc sg.data.toList = none := by simpa using hbs
                  exact ⟨by unfold outOf; rw [e0]; rfl, by unfold dec; rw [e0]; rfl⟩
                rw [HU.out.1, List.append_nil] at ht3
                have e5 : (D ++ outOf sg.data.toList).length = D.length := by rw [HU.out.1, List.append_nil]
                rw [e5]
                have HT3 : Hid (Two W w3 B 3 (.slice ea es.length ec) es.length (.slice a1 n c1) n (icells E) 5 (.slice da ds.length dc) ds.length (.slice a4 D.length c4) D.length (bcells D)) := ht3
                have hrz3 : B ≤ w3.heap.size := Nat.le_trans hWB HT3.out.bel.size
                clear ht3 hbs e5
                go_wp2_with (at_builtin; refine wpList_append_grew_str rfl (.tmp 76) (.tmp 77) 24 9 rfl B 5 i0 Try.underlying24 Try.underlying9 hi hz0 hz1 hz2 _ D.length _ rfl HT3.out.own2 sg rfl (by unfold maxLen; omega) (by omega) hrz3 ?_)
                intro v5 w5 hg5
                have ht5 := HT3.out.step2 hg5 (by omega) (by decide) hrz3
                clear hg5
                obtain ⟨a6, c6, rfl, _⟩ := own_shape ht5.own2
                obtain ⟨D2, hD2⟩ : ∃ D2, D ++ sg.data.toList = D2 := ⟨_, rfl⟩
                have hl2 : D.length + sg.size = D2.length := by rw [← hD2]; simp
                rw [strCells_eq, ← bcells_app, hD2, hl2] at ht5
                rw [hl2]
                have HD2 : Hid (D ++ sep E ++ dec (seg rest.data.toList (st, (p + st))) = D2 ∧ D2.length ≤ D.length + ((p + st) + 1 - st)) := ⟨by rw [HD1.out.1, ← HSG.out, HU.out.2]; exact hD2, by have := HD1.out.2; omega⟩
                have hd2 : D2.length ≤ 3000000 := by omega
                have HT5 : Hid (Two W w5 B 3 (.slice ea es.length ec) es.length (.slice a1 n c1) n (icells E) 5 (.slice da ds.length dc) ds.length (.slice a6 D2.length c6) D2.length (bcells D2)) := ht5
                have hrz5 : B ≤ w5.heap.size := Nat.le_trans hWB HT5.out.bel.size
                clear ht5 hD2 hl2
                go_wp2_with (at_builtin; refine wpList_append_grew rfl (.tmp 79) (.tmp 82) 23 rfl B 3 i3 (.int .i64 0) 8 Try.underlying23 hi3 hy0 hy1 hy2 rfl _ n _ rfl (own_below HT5.out.own1 (bel_alloc _ _)) ⟨w5.heap.size, 0, none⟩ 1 1 [.int .i64 (D2.length : Int)] rfl rfl (cell_one_at rfl) one_cell (by unfold maxLen; omega) (by omega) (by simp; omega) ?_)
                intro v7 w7 hg7
                have HT7 : Hid (Two W w7 B 3 (.slice ea es.length ec) es.length v7 (n + 1) (icells E ++ [.int .i64 (D2.length : Int)]) 5 (.slice da ds.length dc) ds.length _ D2.length (bcells D2)) := (HT5.out.post (bel_alloc _ _) hrz5).step1 hg7 (by omega) (by decide) (by simp; omega)
                clear hg7
                go_wp2_with fail
                go_roundw
                case rel =>
                  refine ⟨done ++ [(st, (p + st))], (p + st) + 1, E ++ [(D2.length : Int)], D2, by simp, seg_next HF.out.1 (by simpa using h1) HQ.out, ?_, ?_, ?_, ?_, ?_, ?_, ?_⟩
                  · have := room_next (k := es.length) (d := done.length) (depth := depth) (by rw [← HF.out.2.2.2, HN.out]; exact h2)
                    simpa using this
                  · rw [fold_snoc, ← HF.out.2.2.1, stp, if_pos rfl, HD2.out.1]
                  · have := HF.out.2.2.2; simp; omega
                  · simp; omega
                  · simp; try omega
                  · have := HD2.out.2; omega
                  · rw [show (E ++ [(D2.length : Int)]).length = n + 1 by rw [List.length_append, HN.out]; rfl, icells_app]; exact HT7.out
                case measure => simp [intOf]; omega
              · obtain ⟨D2, hD2⟩ : ∃ D2, D ++ outOf sg.data.toList = D2 := ⟨_, rfl⟩
                have hU : outOf sg.data.toList = dec sg.data.toList := by
                  unfold outOf dec
                  cases hx : unesc sg.data.toList with
                  | none => rw [hx] at hbs; cases hbs
                  | some x => rfl
                have hl2 : D2.length ≤ D.length + sg.size := by
                  rw [← hD2, hU]
                  have := dec_length sg.data.toList
                  simp at this
                  simp
                  omega
                rw [hD2] at ht3 ⊢
                have HD2 : Hid (D ++ sep E ++ dec (seg rest.data.toList (st, (p + st))) = D2 ∧ D2.length ≤ D.length + ((p + st) + 1 - st)) := ⟨by rw [HD1.out.1, ← HSG.out, ← hU]; exact hD2, by have := HD1.out.2; omega⟩
                have hd2 : D2.length ≤ 3000000 := by omega
                have HT5 : Hid (Two W w3 B 3 (.slice ea es.length ec) es.length (.slice a1 n c1) n (icells E) 5 (.slice da ds.length dc) ds.length (.slice a4 D2.length c4) D2.length (bcells D2)) := ht3
                have hrz5 : B ≤ w3.heap.size := Nat.le_trans hWB HT5.out.bel.size
                clear ht3 hD2 hl2 hbs hU
                go_wp2_with (at_builtin; refine wpList_append_grew rfl (.tmp 79) (.tmp 82) 23 rfl B 3 i3 (.int .i64 0) 8 Try.underlying23 hi3 hy0 hy1 hy2 rfl _ n _ rfl (own_below HT5.out.own1 (bel_alloc _ _)) ⟨w3.heap.size, 0, none⟩ 1 1 [.int .i64 (D2.length : Int)] rfl rfl (cell_one_at rfl) one_cell (by unfold maxLen; omega) (by omega) (by simp; omega) ?_)
                intro v7 w7 hg7
                have HT7 : Hid (Two W w7 B 3 (.slice ea es.length ec) es.length v7 (n + 1) (icells E ++ [.int .i64 (D2.length : Int)]) 5 (.slice da ds.length dc) ds.length _ D2.length (bcells D2)) := (HT5.out.post (bel_alloc _ _) hrz5).step1 hg7 (by omega) (by decide) (by simp; omega)
                clear hg7
                go_wp2_with fail
                go_roundw
                case rel =>
                  refine ⟨done ++ [(st, (p + st))], (p + st) + 1, E ++ [(D2.length : Int)], D2, by simp, seg_next HF.out.1 (by simpa using h1) HQ.out, ?_, ?_, ?_, ?_, ?_, ?_, ?_⟩
                  · have := room_next (k := es.length) (d := done.length) (depth := depth) (by rw [← HF.out.2.2.2, HN.out]; exact h2)
                    simpa using this
                  · rw [fold_snoc, ← HF.out.2.2.1, stp, if_pos rfl, HD2.out.1]
                  · have := HF.out.2.2.2; simp; omega
                  · simp; omega
                  · simp; try omega
                  · have := HD2.out.2; omega
                  · rw [show (E ++ [(D2.length : Int)]).length = n + 1 by rw [List.length_append, HN.out]; rfl, icells_app]; exact HT7.out
                case measure => simp [intOf]; omega
        · have HE := seg_end HF.out.1 HF.out.2.1 (.inr (by have := HF.out.2.2.2; have := HN.out; unfold room; omega))
          have hHE : Hid ((segsFrom rest.data.toList 0).take (room depth es.length) = done ∧ moreOf rest.data.toList (room depth es.length) = decide (st < rest.data.toList.length)) := HE
          clear HE
          have k2 := HS.out.2.c2
          have k3 := HS.out.2.c3
          have k4 := HS.out.2.c4
          have k5 := HS.out.2.c5
          have f9 := HS.out.2.fz
          have f8 := HS.out.1.fz
          have j0 := HS.out.1.c0
          have j1 := HS.out.1.c1
          have j2 := HS.out.1.c2
          have j3 := HS.out.1.c3
          have j4 := HS.out.1.c4
          have j5 := HS.out.1.c5
          go_wp2_with fail
          refine bodyPost_ret (v := .agg #[.string rest, .bool true, .slice a2 D.length c2, .slice a1 n c1, .bool true, .bool sl]) (by simp [results, Try.results15, go_sem, j0, j1, j2, j3, j4, j5]) rfl ?_
          exact split_done HR.out HSL.out hB HH.out (HN.out ▸ HT.out) HS.out.1 HS.out.2 hHE.out HF.out.2.2.1 (by simp; exact h1) ..
      · have hHE : Hid ((segsFrom rest.data.toList 0).take (room depth es.length) = done ∧ moreOf rest.data.toList (room depth es.length) = decide (st < rest.data.toList.length)) := seg_end HF.out.1 HF.out.2.1 (.inl (by simp; omega))
        have k2 := HS.out.2.c2
        have k3 := HS.out.2.c3
        have k4 := HS.out.2.c4
        have k5 := HS.out.2.c5
        have f9 := HS.out.2.fz
        have f8 := HS.out.1.fz
        have j0 := HS.out.1.c0
        have j1 := HS.out.1.c1
        have j2 := HS.out.1.c2
        have j3 := HS.out.1.c3
        have j4 := HS.out.1.c4
        have j5 := HS.out.1.c5
        go_wp2_with fail
        refine bodyPost_ret (v := .agg #[.string rest, .bool true, .slice a2 D.length c2, .slice a1 n c1, .bool false, .bool sl]) (by simp [results, Try.results15, go_sem, j0, j1, j2, j3, j4, j5]) rfl ?_
        exact split_done HR.out HSL.out hB HH.out (HN.out ▸ HT.out) HS.out.1 HS.out.2 hHE.out HF.out.2.2.1 (by simp; omega) ..

end Go.Proofs.Qxb6606428a
