/-
  splitModel.
-/
import Derived.Test.Qxb6606428aModelA
import Derived.Test.Qxb6606428aKeepA
import Derived.Deep.CutRange
import Derived.Deep.CutBlock
namespace Go.Proofs.Qxb6606428a
open Go.RowKit
set_option linter.unusedVariables false
set_option linter.unusedSimpArgs false

/-! ### Two slices of one element type, apart -/
def Apart (v u : Value) : Prop := ∀ k, v.ownBlock = some k → u.ownBlock ≠ some k
theorem Apart.symm {v u : Value} (h : Apart v u) : Apart u v := fun k hu hv => h k hv hu

theorem keep_apart {w w1 : World} {B b0 : Nat} {e e0 : TypeId} {v v1 v0 : Value} {n n1 n0 : Nat} {xs1 xs0 : List Value} (g : Grew w w1 B e v n v1 n1 xs1) (h0 : w.ownsRow b0 e0 1 v0 n0 xs0) (ha : Apart v0 v) : w1.ownsRow b0 e0 1 v0 n0 xs0 ∧ Apart v0 v1 := by
  refine ⟨g.keep _ _ _ _ _ h0 fun heq => ?_, fun k hk hk1 => ?_⟩
  · cases hv : v0.ownBlock with
    | none => have := none_zero h0 hv; omega
    | some k => exact absurd (heq.symm.trans hv) (ha k hv)
  · rcases g.lies k hk1 with e1 | e1
    · exact ha k hk e1
    · have := (h0.lt k hk).2; omega

structure Pair (B : Nat) (w wr : World) (sv : Value) (n : Nat) (tv : Value) (m : Nat) (S T : List Int) : Prop where
  own1 : wr.ownsRow B 3 1 sv n (icells S)
  own2 : wr.ownsRow B 3 1 tv m (icells T)
  ap : Apart sv tv
  bel : Below B w wr

theorem Pair.nil (B : Nat) (w : World) : Pair B w w (.slice none 0 0) 0 (.slice none 0 0) 0 [] [] := ⟨World.ownsRow_nil _ _ _ _, World.ownsRow_nil _ _ _ _, fun k h => by simp [Value.ownBlock] at h, Below.refl _ _⟩
section
variable {B : Nat} {w wr w1 : World} {sv tv v1 : Value} {n m : Nat} {S T : List Int} {x : Int}
theorem Pair.post (h : Pair B w wr sv n tv m S T) (hb : Below wr.heap.size wr w1) (hB : B ≤ wr.heap.size) : Pair B w w1 sv n tv m S T :=
  ⟨own_below h.own1 hb, own_below h.own2 hb, h.ap, h.bel.trans (hb.mono hB)⟩
theorem Pair.step1 (h : Pair B w wr sv n tv m S T) (g : Grew wr w1 B 3 sv n v1 (n + 1) (icells S ++ [.int .i64 x])) (hB : B ≤ wr.heap.size) : Pair B w w1 v1 (n + 1) tv m (S ++ [x]) T := by
  obtain ⟨a, b⟩ := keep_apart g h.own2 h.ap.symm
  refine ⟨?_, a, b.symm, g.below h.bel hB⟩
  rw [icells_app]
  exact g.own
theorem Pair.swap (h : Pair B w wr sv n tv m S T) : Pair B w wr tv m sv n T S := ⟨h.own2, h.own1, h.ap.symm, h.bel⟩
theorem Pair.step2 (h : Pair B w wr sv n tv m S T) (g : Grew wr w1 B 3 tv m v1 (m + 1) (icells T ++ [.int .i64 x])) (hB : B ≤ wr.heap.size) : Pair B w w1 sv n v1 (m + 1) S (T ++ [x]) := (h.swap.step1 g hB).swap
end

/-! ### the plain side -/
theorem segsA_bounds : ∀ (l : List UInt8) (st i : Nat), st ≤ i → ∀ s ∈ segsA st i l, s.1 ≤ s.2 ∧ s.2 ≤ i + l.length
  | [], st, i, h, s, hs => by
    unfold segsA at hs
    split at hs
    · simp at hs; subst hs; exact ⟨h, by simp⟩
    · simp at hs
  | b :: l, st, i, h, s, hs => by
    unfold segsA at hs
    split at hs
    · rcases List.mem_cons.1 hs with rfl | hs
      · exact ⟨h, by simp⟩
      · have := segsA_bounds l (i + 1) (i + 1) (Nat.le_refl _) s hs
        simp; omega
    · have := segsA_bounds l st (i + 1) (by omega) s hs
      simp; omega
theorem segsA_count : ∀ (l : List UInt8) (st i : Nat), (segsA st i l).length ≤ l.length + 1
  | [], st, i => by unfold segsA; split <;> simp
  | b :: l, st, i => by
    unfold segsA
    split
    · have := segsA_count l (i + 1) (i + 1); simp; omega
    · have := segsA_count l st (i + 1); simp; omega

theorem endsS_last (s : ByteArray) (h : 0 < s.size) : endsS s = decide (s[s.size - 1] = 47) := by
  have e : (s.extract (s.size - 1) s.size).toList = [s[s.size - 1]] := by
    rw [ByteArray.toList_eq, ext_drop, drop_at (ba_get s (s.size - 1) (by omega)), List.drop_of_length_le (by simp; omega)]
  unfold endsS
  rw [e, decide_eq_true (show 1 ≤ s.size by omega)]
  by_cases h : s[s.size - 1] = 47
  · simp [h]
  · simp [h]

def MPost (text : ByteArray) (b : Bool) (depth : Int) (w : World) (e : Ending) (w' : World) : Prop :=
  ∃ (ea' da' : Option Addr) (ec' dc' : Nat) (E : List Int) (D : List UInt8), e = .returned (.tuple #[.bool b, .bool (moreOf (restOf text).data.toList (room depth 0)), .bool (endsS (restOf text)), .slice ea' E.length ec', .slice da' D.length dc']) ∧
    Below w.heap.size w w' ∧ w'.ownsRow w.heap.size 3 1 (.slice ea' E.length ec') E.length (icells E) ∧ w'.ownsRow w.heap.size 5 1 (.slice da' D.length dc') D.length (bcells D) ∧
    (E, D) = fold b (restOf text).data.toList [] [] ((segsFrom (restOf text).data.toList 0).take (room depth 0))

def L1Rel (text : ByteArray) (w : World) (bv iv : Value) (wr : World) : Prop := ∃ i : Nat, iv = .int .i64 i ∧ i ≤ text.size ∧ bv = .bool (decide ((37 : UInt8) ∈ text.data.toList.take i)) ∧ wr = w

theorem mem_step {l : List UInt8} {i : Nat} {c : UInt8} (h : l[i]? = some c) : decide ((37 : UInt8) ∈ l.take (i + 1)) = (decide ((37 : UInt8) ∈ l.take i) || decide (c = 37)) := by
  rw [List.take_add_one, h]
  by_cases h1 : (37 : UInt8) ∈ l.take i
  · simp [h1]
  · simp [h1, eq_comm]

theorem more_min {R : List UInt8} {r n tk : Nat} (hl : (segsFrom R 0).length = n) (h : tk = min r n) : moreOf R r = decide ((tk : Int) < (n : Int)) := by
  unfold moreOf
  rw [decide_eq_decide, List.drop_eq_nil_iff, hl, h]
  omega
theorem take_min {R : List UInt8} {r n tk : Nat} (hl : (segsFrom R 0).length = n) (h : tk = min r n) : (segsFrom R 0).take r = (segsFrom R 0).take tk := by
  rw [h, ← hl]
  by_cases h : r ≤ (segsFrom R 0).length
  · rw [Nat.min_eq_left h]
  · rw [Nat.min_eq_right (by omega), List.take_of_length_le (by omega), List.take_of_length_le (Nat.le_refl _)]
theorem take_next {l : List (Nat × Nat)} {i : Nat} {x : Nat × Nat} (h : l[i]? = some x) : l.take (i + 1) = l.take i ++ [x] := by
  rw [List.take_add_one, h]; rfl

/-- One cell of a row that reads a list's image. -/
def CellAt (w : World) (a : Option Addr) (i : Nat) (v : Int) : Prop := ∃ g, a = some ⟨g, 0, none⟩ ∧ w.cell? ⟨g, i, none⟩ = some (.int .i64 v)
theorem CellAt.below {w w' : World} {a : Option Addr} {i : Nat} {v : Int} (h : CellAt w a i v) (hb : Below w.heap.size w w') : CellAt w' a i v := by
  obtain ⟨g, e, h⟩ := h
  exact ⟨g, e, by rw [← h]; exact hb.cell (cell_past h)⟩
theorem rowAt_map {w : World} {b : Nat} {a : Option Addr} {n c : Nat} {l : List (Nat × Nat)} (g : Nat × Nat → Int) (h : w.ownsRow b 3 1 (.slice a n c) n (icells (l.map g))) {i : Nat} {x : Nat × Nat} (hx : l[i]? = some x) : CellAt w a i (g x) := by
  have hl : l.length = n := by have := h.1; simpa [icells] using this
  have hi : i < n := by rw [← hl]; exact (List.getElem?_eq_some_iff.1 hx).1
  exact rowAt_own (k := .i64) (f := fun i => g (l.getD i (0, 0))) h (fun j hj => by rw [← hl] at hj; simp [icells, hj]) i hi |>.elim fun k hk => ⟨k, hk.1, by rw [hk.2]; simp [hx]⟩

theorem seg_bounds {R : List UInt8} {i : Nat} {x : Nat × Nat} (h : (segsFrom R 0)[i]? = some x) : x.1 ≤ x.2 ∧ x.2 ≤ R.length := by
  have := segsA_bounds (R.drop 0) 0 0 (Nat.le_refl _) x (List.mem_of_getElem? h)
  simpa using this
theorem bcells_one (r : List UInt8) : ∀ u ∈ bcells r, u.oneCell' = true := by
  intro u hu
  obtain ⟨b, _, rfl⟩ := List.mem_map.1 hu
  rfl
theorem model_done {text rest : ByteArray} {a1 b sl : Bool} {depth : Int} {w W wr : World} {i n : Nat} {E : List Int} {D : List UInt8} {ea da sa ta : Option Addr} {ec dc sc tc : Nat} {S T : List Int}
    (HR : restOf text = rest) (HBE : escOf text a1 = b) (HSL : endsS rest = sl) (HMO : moreOf rest.data.toList (room depth 0) = decide ((i : Int) < (n : Int))) (HTK : (segsFrom rest.data.toList 0).take (room depth 0) = (segsFrom rest.data.toList 0).take i)
    (HN : E.length = i) (HF : (E, D) = fold b rest.data.toList [] [] ((segsFrom rest.data.toList 0).take i)) (HT : Two W wr W.heap.size 3 (.slice none 0 0) 0 (.slice ea i ec) i (icells E) 5 (.slice none 0 0) 0 (.slice da D.length dc) D.length (bcells D))
    (HP : Pair w.heap.size w W (.slice sa n sc) n (.slice ta n tc) n S T) :
    MPost text (escOf text a1) depth w (.returned (.tuple #[.bool b, .bool (decide (i < n)), .bool sl, .slice ea i ec, .slice da D.length dc])) wr := by
  subst HR HBE HSL HN
  refine ⟨ea, da, ec, dc, E, D, ?_, HP.bel.trans (HT.bel.mono HP.bel.size), ownsRow_base HT.own1 HP.bel.size, ownsRow_base HT.own2 HP.bel.size, by rw [HTK]; exact HF⟩
  rw [HMO]
  congr 6
  simp

def L3Rel (b : Bool) (R : List UInt8) (size : Nat) (W : World) (tk : Nat) (ev dv iv : Value) (wr : World) : Prop :=
  ∃ (i : Nat) (E : List Int) (D : List UInt8), iv = .int .i64 i ∧ i ≤ tk ∧ E.length = i ∧ D.length ≤ i * (size + 1) ∧ Hid ((E, D) = fold b R [] [] ((segsFrom R 0).take i)) ∧
    Hid (Two W wr W.heap.size 3 (.slice none 0 0) 0 ev i (icells E) 5 (.slice none 0 0) 0 dv D.length (bcells D))

def L2Rel (R : List UInt8) (size : Nat) (w : World) (sv tv stv iv : Value) (wr : World) : Prop :=
  ∃ (done : List (Nat × Nat)) (st i : Nat), stv = .int .i64 st ∧ iv = .int .i64 i ∧ st ≤ i ∧ i ≤ size + 1 ∧ done.length ≤ i ∧ Hid ((i ≤ size → segsFrom R 0 = done ++ segsA st i (R.drop i)) ∧ (size < i → segsFrom R 0 = done)) ∧
    Hid (Pair w.heap.size w wr sv done.length tv done.length (done.map fun s => (s.1 : Int)) (done.map fun s => (s.2 : Int)))

/-- What stands behind the second loop. -/
def LDone (R : List UInt8) (size : Nat) (w : World) (sv tv : Value) (wx : World) : Prop :=
  ∃ (sa ta : Option Addr) (sc tc n : Nat), sv = .slice sa n sc ∧ tv = .slice ta n tc ∧ n ≤ size + 1 ∧ Pair w.heap.size w wx (.slice sa n sc) n (.slice ta n tc) n ((segsFrom R 0).map fun s => (s.1 : Int)) ((segsFrom R 0).map fun s => (s.2 : Int)) ∧ (segsFrom R 0).length = n

set_option maxRecDepth 100000 in
set_option maxHeartbeats 6400000 in
theorem splitModel_any (text : ByteArray) (a1 : Bool) (depth : Int) (w : World) (ht : 1 ≤ text.size) (hts : text.size ≤ 1048576) (hd : -9223372036854775808 ≤ depth ∧ depth ≤ 9223372036854775807) :
    Calls Try.prog 8 #[.string text, .bool a1, .int .i64 depth] w (MPost text (escOf text a1) depth w) := by
  obtain ⟨i0, hi0, hz0, hz1, hz2⟩ := info_parts Try.info5
  obtain ⟨i3, hi3, hy0, hy1, hy2⟩ := info_parts Try.info3
  obtain ⟨rest, hrest⟩ : ∃ rest, text.extract 1 text.size = rest := ⟨_, rfl⟩
  have HR : Hid (restOf text = rest) := hrest
  have hrs : rest.size ≤ 1048576 := by rw [← hrest]; simp; omega
  go_enter Try.func8, Try.ntmps8
  go_upto_if 25 with fail
  go_cut [6] from 23 (fun s6 wx => s6 = .bool (escOf text a1) ∧ wx = w)
  case first =>
    cases a1
    · go_wp2_with fail
      go_meet
      case rel => exact ⟨rfl, rfl⟩
    · go_wp2_with fail
      go_loopw [6, 12] (fun bv iv wr => L1Rel text w bv iv wr) (fun _ iv _ => text.size - (intOf iv).toNat)
      case atStart => exact ⟨0, rfl, Nat.zero_le _, by simp, rfl⟩
      case round =>
        obtain ⟨i, rfl, hi, rfl, hwr⟩ := hrel
        subst hwr
        by_cases h : i < text.size
        · have HA : Hid (text.data.toList[i]? = some text[i]) := ba_get text i h
          by_cases hp : (text[i].toNat : Int) = 37
          · go_wp2_with fail
            go_roundw
            case rel =>
              refine ⟨i + 1, by simp, h, ?_, rfl⟩
              rw [mem_step HA.out, decide_eq_true (show text[i] = 37 from UInt8.toNat_inj.1 (by show text[i].toNat = 37; omega))]
              simp
            case measure => simp [intOf]; omega
          · go_wp2_with fail
            go_roundw
            case rel =>
              refine ⟨i + 1, by simp, h, ?_, rfl⟩
              rw [mem_step HA.out, decide_eq_false (show ¬ text[i] = 37 from fun e => hp (by rw [e]; rfl))]
              simp
            case measure => simp [intOf]; omega
        · go_wp2_with fail
          go_meet
          case rel =>
            refine ⟨?_, rfl⟩
            rw [List.take_of_length_le (by simp; omega)]
            rfl
  case rest =>
    obtain ⟨rfl, hwc⟩ := hcut
    have hwc' := hwc.symm
    subst hwc'
    clear hwc
    obtain ⟨b, hb⟩ : ∃ b, escOf text a1 = b := ⟨_, rfl⟩
    have HBE : Hid (escOf text a1 = b) := hb
    rw [hb]
    clear hb
    go_upto_region 8 with fail
    go_cut [8] from 23 (fun s8 wx => s8 = .bool (endsS rest) ∧ wx = w)
    case first =>
      by_cases h : 0 < rest.size
      · have HE : Hid (endsS rest = decide (rest[rest.size - 1] = 47)) := endsS_last rest h
        by_cases hp : (rest[rest.size - 1].toNat : Int) = 47
        · go_wp2_with fail
          go_meet
          case rel =>
            refine ⟨?_, rfl⟩
            rw [HE.out, decide_eq_true (show rest[rest.size - 1] = 47 from UInt8.toNat_inj.1 (by show rest[rest.size - 1].toNat = 47; omega))]
        · go_wp2_with fail
          go_meet
          case rel =>
            refine ⟨?_, rfl⟩
            rw [HE.out, decide_eq_false (show ¬ rest[rest.size - 1] = 47 from fun e => hp (by rw [e]; rfl))]
            congr 1
            exact beq_eq_false_iff_ne.2 hp
      · go_wp2_with fail
        go_meet
        case rel =>
          refine ⟨?_, rfl⟩
          unfold endsS
          rw [decide_eq_false (show ¬ 1 ≤ rest.size by omega)]
          rfl
    case rest =>
      obtain ⟨rfl, hwc⟩ := hcut
      have hwc' := hwc.symm
      subst hwc'
      clear hwc
      obtain ⟨sl, hsl⟩ : ∃ sl, endsS rest = sl := ⟨_, rfl⟩
      have HSL : Hid (endsS rest = sl) := hsl
      rw [hsl]
      clear hsl
      go_upto_block 2 with fail
      go_cut [13, 14, 15, 16] from 23 (fun sv tv _ _ wx => LDone rest.data.toList rest.size w sv tv wx)
      case first =>
        go_wp2_with fail
        go_loopw [13, 14, 15, 16] (fun sv tv stv iv wr => L2Rel rest.data.toList rest.size w sv tv stv iv wr) (fun _ _ _ iv _ => rest.size + 1 - (intOf iv).toNat)
        case atStart => exact ⟨[], 0, 0, rfl, rfl, Nat.le_refl _, Nat.zero_le _, Nat.le_refl _, ⟨fun _ => rfl, fun h => by omega⟩, Pair.nil _ _⟩
        case round =>
          obtain ⟨done, st, i, rfl, rfl, hst, hi, hdi, HG, HP⟩ := hrel
          obtain ⟨n, hn⟩ : ∃ n, done.length = n := ⟨_, rfl⟩
          have HN : Hid (done.length = n) := hn
          rw [hn] at HP hdi
          clear hn
          obtain ⟨sa, sc, rfl, _⟩ := own_shape HP.out.own1
          obtain ⟨ta, tc, rfl, _⟩ := own_shape HP.out.own2
          have hrz : w.heap.size ≤ wr.heap.size := HP.out.bel.size
          by_cases h1 : i < rest.size
          · have HA : Hid (rest.data.toList[i]? = some rest[i]) := ba_get rest i h1
            by_cases hp : (rest[i].toNat : Int) = 47
            · have HX : Hid (segsFrom rest.data.toList 0 = done ++ [(st, i)] ++ segsA (i + 1) (i + 1) (rest.data.toList.drop (i + 1))) := by
                show _ = _
                rw [HG.out.1 (by omega), drop_at HA.out, segsA, if_pos (show rest[i] = 47 from UInt8.toNat_inj.1 (by show rest[i].toNat = 47; omega))]
                simp
              go_wp2_with (at_builtin; refine wpList_append_grew rfl (.tmp 72) (.tmp 74) 23 rfl w.heap.size 3 i3 (.int .i64 0) 8 Try.underlying23 hi3 hy0 hy1 hy2 rfl _ n _ rfl (own_below HP.out.own1 (bel_alloc _ _)) ⟨wr.heap.size, 0, none⟩ 1 1 [.int .i64 (st : Int)] rfl rfl (cell_one_at rfl) one_cell (by unfold maxLen; omega) (by omega) (by simp; omega) ?_)
              intro v1 w1 hg1
              have HP1 : Hid (Pair w.heap.size w w1 v1 (n + 1) (.slice ta n tc) n ((done.map fun s => (s.1 : Int)) ++ [(st : Int)]) (done.map fun s => (s.2 : Int))) := (HP.out.post (bel_alloc _ _) hrz).step1 hg1 (by simp; omega)
              have hrz1 : w.heap.size ≤ w1.heap.size := HP1.out.bel.size
              clear hg1
              go_wp2_with (at_builtin; refine wpList_append_grew rfl (.tmp 76) (.tmp 78) 23 rfl w.heap.size 3 i3 (.int .i64 0) 8 Try.underlying23 hi3 hy0 hy1 hy2 rfl _ n _ rfl (own_below HP1.out.own2 (bel_alloc _ _)) ⟨w1.heap.size, 0, none⟩ 1 1 [.int .i64 (i : Int)] rfl rfl (cell_one_at rfl) one_cell (by unfold maxLen; omega) (by omega) (by simp; omega) ?_)
              intro v2 w2 hg2
              have HP2 : Hid (Pair w.heap.size w w2 v1 (n + 1) v2 (n + 1) ((done.map fun s => (s.1 : Int)) ++ [(st : Int)]) ((done.map fun s => (s.2 : Int)) ++ [(i : Int)])) := (HP1.out.post (bel_alloc _ _) hrz1).step2 hg2 (by simp; omega)
              clear hg2
              go_wp2_with fail
              go_roundw
              case rel =>
                refine ⟨done ++ [(st, i)], i + 1, i + 1, by simp, by simp, Nat.le_refl _, by omega, by have := HN.out; simp; omega, ⟨fun _ => HX.out, fun h => by omega⟩, ?_⟩
                rw [List.length_append, HN.out, List.map_append, List.map_append]
                exact HP2.out
              case measure => simp [intOf]; try omega
            · have HX : Hid (segsFrom rest.data.toList 0 = done ++ segsA st (i + 1) (rest.data.toList.drop (i + 1))) := by
                show _ = _
                rw [HG.out.1 (by omega), drop_at HA.out, segsA, if_neg (show ¬ rest[i] = 47 from fun e => hp (by rw [e]; rfl))]
              go_wp2_with fail
              go_roundw
              case rel => exact ⟨done, st, i + 1, rfl, by simp, by omega, by omega, by rw [HN.out]; omega, ⟨fun _ => HX.out, fun h => by omega⟩, by rw [HN.out]; exact HP.out⟩
              case measure => simp [intOf]; omega
          · by_cases h2 : i ≤ rest.size
            · have hdr : rest.data.toList.drop i = [] := List.drop_of_length_le (by simp; omega)
              obtain rfl : i = rest.size := by omega
              by_cases h3 : st < rest.size
              · have HX : Hid (segsFrom rest.data.toList 0 = done ++ [(st, rest.size)]) := by
                  show _ = _
                  rw [HG.out.1 h2, hdr, segsA, if_pos h3]
                clear hdr
                go_wp2_with (at_builtin; refine wpList_append_grew rfl (.tmp 72) (.tmp 74) 23 rfl w.heap.size 3 i3 (.int .i64 0) 8 Try.underlying23 hi3 hy0 hy1 hy2 rfl _ n _ rfl (own_below HP.out.own1 (bel_alloc _ _)) ⟨wr.heap.size, 0, none⟩ 1 1 [.int .i64 (st : Int)] rfl rfl (cell_one_at rfl) one_cell (by unfold maxLen; omega) (by omega) (by simp; omega) ?_)
                intro v1 w1 hg1
                have HP1 : Hid (Pair w.heap.size w w1 v1 (n + 1) (.slice ta n tc) n ((done.map fun s => (s.1 : Int)) ++ [(st : Int)]) (done.map fun s => (s.2 : Int))) := (HP.out.post (bel_alloc _ _) hrz).step1 hg1 (by simp; omega)
                have hrz1 : w.heap.size ≤ w1.heap.size := HP1.out.bel.size
                clear hg1
                go_wp2_with (at_builtin; refine wpList_append_grew rfl (.tmp 76) (.tmp 78) 23 rfl w.heap.size 3 i3 (.int .i64 0) 8 Try.underlying23 hi3 hy0 hy1 hy2 rfl _ n _ rfl (own_below HP1.out.own2 (bel_alloc _ _)) ⟨w1.heap.size, 0, none⟩ 1 1 [.int .i64 (rest.size : Int)] rfl rfl (cell_one_at rfl) one_cell (by unfold maxLen; omega) (by omega) (by simp; omega) ?_)
                intro v2 w2 hg2
                have HP2 : Hid (Pair w.heap.size w w2 v1 (n + 1) v2 (n + 1) ((done.map fun s => (s.1 : Int)) ++ [(st : Int)]) ((done.map fun s => (s.2 : Int)) ++ [(rest.size : Int)])) := (HP1.out.post (bel_alloc _ _) hrz1).step2 hg2 (by simp; omega)
                clear hg2
                go_wp2_with fail
                go_roundw
                case rel =>
                  refine ⟨done ++ [(st, rest.size)], rest.size + 1, rest.size + 1, by simp, by simp, Nat.le_refl _, by omega, by have := HN.out; simp; omega, ⟨fun h => by omega, fun _ => HX.out⟩, ?_⟩
                  rw [List.length_append, HN.out, List.map_append, List.map_append]
                  exact HP2.out
                case measure => simp [intOf]; try omega
              · have HX : Hid (segsFrom rest.data.toList 0 = done) := by
                  show _ = _
                  rw [HG.out.1 h2, hdr, segsA, if_neg h3]; simp
                clear hdr
                obtain rfl : st = rest.size := by omega
                go_wp2_with fail
                go_meet
                case rel => exact ⟨sa, ta, sc, tc, n, rfl, rfl, by omega, HX.out ▸ HP.out, by rw [HX.out]; exact HN.out⟩
            · have HX : Hid (segsFrom rest.data.toList 0 = done) := HG.out.2 (by omega)
              go_wp2_with fail
              go_meet
              case rel => exact ⟨sa, ta, sc, tc, n, rfl, rfl, by omega, HX.out ▸ HP.out, by rw [HX.out]; exact HN.out⟩
      case rest =>
        obtain ⟨sa, ta, sc, tc, n, rfl, rfl, hn, hpair, hlen⟩ := hcut
        obtain ⟨W, rfl⟩ : ∃ W, W = wc := ⟨_, rfl⟩
        have HP : Hid (Pair w.heap.size w W (.slice sa n sc) n (.slice ta n tc) n ((segsFrom rest.data.toList 0).map fun s => (s.1 : Int)) ((segsFrom rest.data.toList 0).map fun s => (s.2 : Int)) ∧ (segsFrom rest.data.toList 0).length = n) := ⟨hpair, hlen⟩
        clear hpair hlen
        obtain ⟨t, ht0, ht1, ht2⟩ : ∃ t : Int, Hid (t = if depth < (n : Int) then depth else (n : Int)) ∧ (depth < (n : Int) → depth = t) ∧ (¬ depth < (n : Int) → (n : Int) = t) := by
          by_cases h : depth < (n : Int)
          · exact ⟨depth, (if_pos h).symm, fun _ => rfl, fun x => absurd h x⟩
          · exact ⟨n, (if_neg h).symm, fun x => absurd x h, fun _ => rfl⟩
        have HT12 : Hid ((depth < (n : Int) → depth = t) ∧ (¬ depth < (n : Int) → (n : Int) = t)) := ⟨ht1, ht2⟩
        clear ht1 ht2
        go_upto_if 87 with fail
        go_cut [18] from 23 (fun s18 wx => s18 = .int .i64 t ∧ wx = W)
        case first =>
          by_cases h : depth < (n : Int)
          · go_wp2_with fail
            go_meet
            case rel => exact ⟨by rw [HT12.out.1 h], rfl⟩
          · go_wp2_with fail
            go_meet
            case rel => exact ⟨by rw [HT12.out.2 h], rfl⟩
        case rest =>
          obtain ⟨rfl, hwc⟩ := hcut
          have hwc' := hwc.symm
          subst hwc'
          clear hwc
          obtain ⟨tk, hk0, hk1, hk2⟩ : ∃ tk : Nat, Hid (tk = min (room depth 0) n) ∧ (t < 0 → (0 : Int) = tk) ∧ (¬ t < 0 → t = tk) := by
            have hr : room depth 0 = depth.toNat := by unfold room; simp
            have := ht0.out
            refine ⟨min (room depth 0) n, rfl, fun h => ?_, fun h => ?_⟩
            · rw [hr]; split at this <;> omega
            · rw [hr]; split at this <;> omega
          have HK12 : Hid ((t < 0 → (0 : Int) = tk) ∧ (¬ t < 0 → t = tk)) := ⟨hk1, hk2⟩
          clear hk1 hk2
          have htb : -9223372036854775808 ≤ t ∧ t ≤ 9223372036854775807 := by
            have := ht0.out
            split at this <;> omega
          have htn : tk ≤ n := by rw [hk0.out]; exact Nat.min_le_right _ _
          go_upto_if 90 with fail
          go_cut [18] from 23 (fun s18 wx => s18 = .int .i64 (tk : Int) ∧ wx = W)
          case first =>
            by_cases h : t < 0
            · go_wp2_with fail
              go_meet
              case rel => exact ⟨by rw [← HK12.out.1 h], rfl⟩
            · go_wp2_with fail
              go_meet
              case rel => exact ⟨by rw [HK12.out.2 h], rfl⟩
          case rest =>
            obtain ⟨rfl, hwc⟩ := hcut
            have hwc' := hwc.symm
            subst hwc'
            clear hwc
            clear HT12 HK12 ht0 htb
            have HMO : Hid (moreOf rest.data.toList (room depth 0) = decide ((tk : Int) < (n : Int))) := more_min HP.out.2 hk0.out
            have HTK : Hid ((segsFrom rest.data.toList 0).take (room depth 0) = (segsFrom rest.data.toList 0).take tk) := take_min HP.out.2 hk0.out
            clear hk0
            cases b
            · go_wp2_with fail
              go_loopw [9, 10, 19] (fun ev dv iv wr => L3Rel false rest.data.toList rest.size W tk ev dv iv wr) (fun _ _ iv _ => tk - (intOf iv).toNat)
              case atStart => exact ⟨0, [], [], rfl, Nat.zero_le _, rfl, Nat.zero_le _, rfl, Two.refl (World.ownsRow_nil _ _ _ _) (World.ownsRow_nil _ _ _ _)⟩
              case round =>
                obtain ⟨i, E, D, rfl, hi, hE, hDl, HF, HT⟩ := hrel
                have HN : Hid (E.length = i) := hE
                clear hE
                obtain ⟨ea, ec, rfl, _⟩ := own_shape HT.out.own1
                obtain ⟨da, dc, rfl, _⟩ := own_shape HT.out.own2
                have hrz5 : W.heap.size ≤ wr.heap.size := HT.out.bel.size
                by_cases h : i < tk
                · obtain ⟨pq, hpq⟩ : ∃ pq, (segsFrom rest.data.toList 0)[i]? = some pq := ⟨_, List.getElem?_eq_getElem (by rw [HP.out.2]; omega)⟩
                  have HPQ : Hid ((segsFrom rest.data.toList 0)[i]? = some pq ∧ True) := ⟨hpq, trivial⟩
                  obtain ⟨g1, rfl, c1⟩ := (rowAt_map (fun s => (s.2 : Int)) HP.out.1.own2 hpq).below HT.out.bel
                  clear hpq
                  obtain ⟨p, q⟩ := pq
                  have c1' : wr.cell? ⟨g1, i, none⟩ = some (.int .i64 (q : Int)) := c1
                  clear c1
                  go_wp2_with (at_builtin; refine wpList_append_grew rfl (.tmp 101) (.tmp 106) 23 rfl W.heap.size 3 i3 (.int .i64 0) 8 Try.underlying23 hi3 hy0 hy1 hy2 rfl _ i _ rfl (own_below HT.out.own1 (bel_alloc _ _)) ⟨wr.heap.size, 0, none⟩ 1 1 [.int .i64 (q : Int)] rfl rfl (cell_one_at rfl) one_cell (by unfold maxLen; omega) (by omega) (by simp; omega) ?_)
                  intro v7 w7 hg7
                  have HT7 : Hid (Two W w7 W.heap.size 3 (.slice none 0 0) 0 v7 (i + 1) (icells E ++ [.int .i64 (q : Int)]) 5 (.slice none 0 0) 0 (.slice da D.length dc) D.length (bcells D)) := (HT.out.post (bel_alloc _ _) hrz5).step1 hg7 (by omega) (by decide) (by simp; omega)
                  clear hg7
                  go_wp2_with fail
                  go_roundw
                  case rel =>
                    refine ⟨i + 1, E ++ [(q : Int)], D, by simp, h, by rw [List.length_append, HN.out]; rfl, by rw [Nat.succ_mul]; omega, ?_, ?_⟩
                    · rw [take_next HPQ.out.1, fold_snoc, ← HF.out]
                      rfl
                    · rw [icells_app]; exact HT7.out
                  case measure => simp [intOf]; omega
                · obtain rfl : i = tk := by omega
                  go_wp2_with fail
                  refine bodyPost_ret (v := .tuple #[.bool false, .bool (decide (i < n)), .bool sl, .slice ea i ec, .slice da D.length dc]) (by simp [results, Try.results8, go_sem]) rfl ?_
                  exact model_done HR.out HBE.out HSL.out HMO.out HTK.out HN.out HF.out HT.out HP.out.1
            · go_wp2_with fail
              go_loopw [9, 10, 19] (fun ev dv iv wr => L3Rel true rest.data.toList rest.size W tk ev dv iv wr) (fun _ _ iv _ => tk - (intOf iv).toNat)
              case atStart => exact ⟨0, [], [], rfl, Nat.zero_le _, rfl, Nat.zero_le _, rfl, Two.refl (World.ownsRow_nil _ _ _ _) (World.ownsRow_nil _ _ _ _)⟩
              case round =>
                obtain ⟨i, E, D, rfl, hi, hE, hDl, HF, HT⟩ := hrel
                have HN : Hid (E.length = i) := hE
                clear hE
                obtain ⟨ea, ec, rfl, _⟩ := own_shape HT.out.own1
                obtain ⟨da, dc, rfl, _⟩ := own_shape HT.out.own2
                have hrz : W.heap.size ≤ wr.heap.size := HT.out.bel.size
                by_cases h : i < tk
                · obtain ⟨M, hM⟩ : ∃ M, i * (rest.size + 1) = M := ⟨_, rfl⟩
                  have HM : Hid (i * (rest.size + 1) = M) := hM
                  have hMb : M ≤ 1099513724929 := by rw [← hM]; exact Nat.mul_le_mul (show i ≤ 1048577 by omega) (show rest.size + 1 ≤ 1048577 by omega)
                  rw [hM] at hDl
                  clear hM
                  obtain ⟨⟨p, q⟩, hpq⟩ : ∃ pq, (segsFrom rest.data.toList 0)[i]? = some pq := ⟨_, List.getElem?_eq_getElem (by rw [HP.out.2]; omega)⟩
                  have HPQ : Hid ((segsFrom rest.data.toList 0)[i]? = some (p, q)) := hpq
                  have HC : Hid (CellAt W sa i (p : Int) ∧ CellAt W ta i (q : Int)) := ⟨rowAt_map (fun s => (s.1 : Int)) HP.out.1.own1 hpq, rowAt_map (fun s => (s.2 : Int)) HP.out.1.own2 hpq⟩
                  obtain ⟨hb1, hb2⟩ := seg_bounds hpq
                  have hb1' : p ≤ q := hb1
                  have hb2' : q ≤ rest.size := by simpa using hb2
                  clear hpq hb1 hb2
                  have i1 : (p : Int) ≤ (q : Int) := by omega
                  have i2 : (q : Int) ≤ (rest.size : Int) := by omega
                  obtain ⟨sg, hsg⟩ : ∃ sg, rest.extract p q = sg := ⟨_, rfl⟩
                  have hsz : sg.size ≤ rest.size := by rw [← hsg]; simp; omega
                  have HSG : Hid (sg.data.toList = seg rest.data.toList (p, q)) := by
                    rw [← hsg]
                    show _ = _
                    rw [ByteArray.data_extract, Array.toList_extract, List.extract_eq_take_drop]; rfl
                  by_cases hn0 : 0 < i
                  · have HSE : Hid (sep E = [47]) := by show _ = _; unfold sep; rw [if_neg (by rw [HN.out]; omega)]
                    go_wp2_with (at_builtin; refine wpList_append_grew rfl (.tmp 110) (.tmp 111) 24 rfl W.heap.size 5 i0 (.int .u8 0) 1 Try.underlying24 hi0 hz0 hz1 hz2 rfl _ D.length _ rfl (own_below HT.out.own2 (bel_alloc _ _)) ⟨wr.heap.size, 0, none⟩ 1 1 [.int .u8 47] rfl rfl (cell_one_at rfl) one_cell (by unfold maxLen; omega) (by omega) (by simp; omega) ?_)
                    intro v2 w2 hg2
                    have ht2 := (HT.out.post (bel_alloc _ _) hrz).step2 hg2 (by omega) (by decide) (by simp; omega)
                    clear hg2
                    obtain ⟨a3, c3, rfl, _⟩ := own_shape ht2.own2
                    have e47 : bcells D ++ [.int .u8 47] = bcells (D ++ sep E) := by rw [HSE.out, bcells_app]; rfl
                    rw [e47] at ht2
                    obtain ⟨D1, hD1⟩ : ∃ D1, D ++ sep E = D1 := ⟨_, rfl⟩
                    have hl1 : D1.length = D.length + 1 := by rw [← hD1, HSE.out]; simp
                    rw [hD1, ← hl1] at ht2
                    rw [← hl1]
                    have HD1 : Hid (D ++ sep E = D1 ∧ D1.length ≤ D.length + 1) := ⟨hD1, by omega⟩
                    have hd1 : D1.length ≤ 1099514000000 := by omega
                    clear hD1 hl1 e47 HSE
                    have HT2 : Hid (Two W w2 W.heap.size 3 (.slice none 0 0) 0 (.slice ea i ec) i (icells E) 5 (.slice none 0 0) 0 (.slice a3 D1.length c3) D1.length (bcells D1)) := ht2
                    clear ht2
                    have hrz2 : W.heap.size ≤ w2.heap.size := HT2.out.bel.size
                    obtain ⟨g1, rfl, k1⟩ := HC.out.1.below HT2.out.bel
                    obtain ⟨g2, rfl, k2⟩ := HC.out.2.below HT2.out.bel
                    go_wp2_with fail
                    go_quiet (fail)
                    go_wp2_with fail
                    refine (unescModel_any sg _ (by omega)).mono ?_
                    rintro e w4 ⟨v4, rfl, hb4, hr4⟩
                    have HT4 : Hid (Two W w4 W.heap.size 3 (.slice none 0 0) 0 (.slice ea i ec) i (icells E) 5 (.slice none 0 0) 0 (.slice a3 D1.length c3) D1.length (bcells D1)) := HT2.out.post ((below_drewN (Below.refl _ _) _).trans hb4) hrz2
                    have hrz4 : W.heap.size ≤ w4.heap.size := HT4.out.bel.size
                    clear hb4
                    cases hu : unesc sg.data.toList with
                    | none =>
                      have HU : Hid (dec sg.data.toList = sg.data.toList) := by show _ = _; unfold dec; rw [hu]; rfl
                      clear hr4
                      simp only [Option.isSome_none]
                      clear hu
                      go_wp2_with (at_builtin; refine wpList_append_grew_str rfl (.tmp 132) (.tmp 133) 24 9 rfl W.heap.size 5 i0 Try.underlying24 Try.underlying9 hi0 hz0 hz1 hz2 _ D1.length _ rfl HT4.out.own2 sg rfl (by unfold maxLen; omega) (by omega) hrz4 ?_)
                      intro v5 w5 hg5
                      have ht5 := HT4.out.step2 hg5 (by omega) (by decide) hrz4
                      clear hg5
                      obtain ⟨a6, c6, rfl, _⟩ := own_shape ht5.own2
                      obtain ⟨D2, hD2⟩ : ∃ D2, D1 ++ sg.data.toList = D2 := ⟨_, rfl⟩
                      have hl2 : D1.length + sg.size = D2.length := by rw [← hD2]; simp
                      rw [strCells_eq, ← bcells_app, hD2, hl2] at ht5
                      rw [hl2]
                      have HD2 : Hid (D ++ sep E ++ dec (seg rest.data.toList (p, q)) = D2 ∧ D2.length ≤ D.length + 1 + rest.size) := ⟨by rw [HD1.out.1, ← HSG.out, HU.out]; exact hD2, by have := HD1.out.2; omega⟩
                      have hd2 : D2.length ≤ 1099520000000 := by omega
                      have HT5 : Hid (Two W w5 W.heap.size 3 (.slice none 0 0) 0 (.slice ea i ec) i (icells E) 5 (.slice none 0 0) 0 (.slice a6 D2.length c6) D2.length (bcells D2)) := ht5
                      have hrz5 : W.heap.size ≤ w5.heap.size := HT5.out.bel.size
                      clear ht5 hD2 hl2
                      go_wp2_with (at_builtin; refine wpList_append_grew rfl (.tmp 135) (.tmp 138) 23 rfl W.heap.size 3 i3 (.int .i64 0) 8 Try.underlying23 hi3 hy0 hy1 hy2 rfl _ i _ rfl (own_below HT5.out.own1 (bel_alloc _ _)) ⟨w5.heap.size, 0, none⟩ 1 1 [.int .i64 (D2.length : Int)] rfl rfl (cell_one_at rfl) one_cell (by unfold maxLen; omega) (by omega) (by simp; omega) ?_)
                      intro v7 w7 hg7
                      have HT7 : Hid (Two W w7 W.heap.size 3 (.slice none 0 0) 0 v7 (i + 1) (icells E ++ [.int .i64 (D2.length : Int)]) 5 (.slice none 0 0) 0 (.slice a6 D2.length c6) D2.length (bcells D2)) := (HT5.out.post (bel_alloc _ _) hrz5).step1 hg7 (by omega) (by decide) (by simp; omega)
                      clear hg7
                      go_wp2_with fail
                      go_roundw
                      case rel =>
                        refine ⟨i + 1, E ++ [(D2.length : Int)], D2, by simp, h, by rw [List.length_append, HN.out]; rfl, by rw [Nat.succ_mul, HM.out]; have := HD2.out.2; omega, ?_, ?_⟩
                        · rw [take_next HPQ.out, fold_snoc, ← HF.out, stp, if_pos rfl, HD2.out.1]; rfl
                        · rw [icells_app]; exact HT7.out
                      case measure => simp [intOf]; omega
                    | some r =>
                      obtain ⟨g4, c4, rfl, ho4⟩ := hr4 r hu
                      have HU : Hid (dec sg.data.toList = r) := by show _ = _; unfold dec; rw [hu]; rfl
                      have hrl : r.length ≤ sg.size := by have := unesc_length _ sg.data.toList (Nat.le_refl _) r hu; simpa using this
                      have HO4 : Hid (w4.ownsRow _ 5 1 (.slice (some ⟨g4, 0, none⟩) r.length c4) r.length (bcells r)) := ho4
                      clear hr4 ho4
                      simp only [Option.isSome_some]
                      clear hu
                      obtain ⟨rl, hrl'⟩ : ∃ rl, r.length = rl := ⟨_, rfl⟩
                      have HRL : Hid (r.length = rl) := hrl'
                      rw [hrl'] at hrl HO4 ⊢
                      clear hrl'
                      go_wp2_with (at_builtin; refine wpList_append_grew rfl (.tmp 129) (.tmp 130) 24 rfl W.heap.size 5 i0 (.int .u8 0) 1 Try.underlying24 hi0 hz0 hz1 hz2 rfl _ D1.length _ rfl HT4.out.own2 ⟨g4, 0, none⟩ rl c4 (bcells r) rfl (by rw [bcells_len, HRL.out]; omega) (HO4.out.cells rfl) (bcells_one r) (by unfold maxLen; omega) (by omega) hrz4 ?_)
                      intro v5 w5 hg5
                      have ht5 := HT4.out.step2 hg5 (by omega) (by decide) hrz4
                      clear hg5
                      obtain ⟨a6, c6, rfl, _⟩ := own_shape ht5.own2
                      obtain ⟨D2, hD2⟩ : ∃ D2, D1 ++ r = D2 := ⟨_, rfl⟩
                      have hl2 : D1.length + rl = D2.length := by rw [← hD2, List.length_append, HRL.out]
                      rw [← bcells_app, hD2, hl2] at ht5
                      rw [hl2]
                      have HD2 : Hid (D ++ sep E ++ dec (seg rest.data.toList (p, q)) = D2 ∧ D2.length ≤ D.length + 1 + rest.size) := ⟨by rw [HD1.out.1, ← HSG.out, HU.out]; exact hD2, by have := HD1.out.2; omega⟩
                      have hd2 : D2.length ≤ 1099520000000 := by omega
                      have HT5 : Hid (Two W w5 W.heap.size 3 (.slice none 0 0) 0 (.slice ea i ec) i (icells E) 5 (.slice none 0 0) 0 (.slice a6 D2.length c6) D2.length (bcells D2)) := ht5
                      have hrz5 : W.heap.size ≤ w5.heap.size := HT5.out.bel.size
                      clear ht5 hD2 hl2
                      go_wp2_with (at_builtin; refine wpList_append_grew rfl (.tmp 135) (.tmp 138) 23 rfl W.heap.size 3 i3 (.int .i64 0) 8 Try.underlying23 hi3 hy0 hy1 hy2 rfl _ i _ rfl (own_below HT5.out.own1 (bel_alloc _ _)) ⟨w5.heap.size, 0, none⟩ 1 1 [.int .i64 (D2.length : Int)] rfl rfl (cell_one_at rfl) one_cell (by unfold maxLen; omega) (by omega) (by simp; omega) ?_)
                      intro v7 w7 hg7
                      have HT7 : Hid (Two W w7 W.heap.size 3 (.slice none 0 0) 0 v7 (i + 1) (icells E ++ [.int .i64 (D2.length : Int)]) 5 (.slice none 0 0) 0 (.slice a6 D2.length c6) D2.length (bcells D2)) := (HT5.out.post (bel_alloc _ _) hrz5).step1 hg7 (by omega) (by decide) (by simp; omega)
                      clear hg7
                      go_wp2_with fail
                      go_roundw
                      case rel =>
                        refine ⟨i + 1, E ++ [(D2.length : Int)], D2, by simp, h, by rw [List.length_append, HN.out]; rfl, by rw [Nat.succ_mul, HM.out]; have := HD2.out.2; omega, ?_, ?_⟩
                        · rw [take_next HPQ.out, fold_snoc, ← HF.out, stp, if_pos rfl, HD2.out.1]; rfl
                        · rw [icells_app]; exact HT7.out
                      case measure => simp [intOf]; omega
                  · have HSE : Hid (sep E = []) := by show _ = _; unfold sep; rw [if_pos (by rw [HN.out]; omega)]
                    have HD1 : Hid (D ++ sep E = D ∧ D.length ≤ D.length + 1) := ⟨by rw [HSE.out]; simp, by omega⟩
                    have hd1 : D.length ≤ 1099514000000 := by omega
                    clear HSE
                    have HT2 : Hid (Two W wr W.heap.size 3 (.slice none 0 0) 0 (.slice ea i ec) i (icells E) 5 (.slice none 0 0) 0 (.slice da D.length dc) D.length (bcells D)) := HT.out
                    have hrz2 : W.heap.size ≤ wr.heap.size := HT2.out.bel.size
                    obtain ⟨g1, rfl, k1⟩ := HC.out.1.below HT2.out.bel
                    obtain ⟨g2, rfl, k2⟩ := HC.out.2.below HT2.out.bel
                    go_wp2_with fail
                    go_quiet (fail)
                    go_wp2_with fail
                    refine (unescModel_any sg _ (by omega)).mono ?_
                    rintro e w4 ⟨v4, rfl, hb4, hr4⟩
                    have HT4 : Hid (Two W w4 W.heap.size 3 (.slice none 0 0) 0 (.slice ea i ec) i (icells E) 5 (.slice none 0 0) 0 (.slice da D.length dc) D.length (bcells D)) := HT2.out.post ((below_drewN (Below.refl _ _) _).trans hb4) hrz2
                    have hrz4 : W.heap.size ≤ w4.heap.size := HT4.out.bel.size
                    clear hb4
                    cases hu : unesc sg.data.toList with
                    | none =>
                      have HU : Hid (dec sg.data.toList = sg.data.toList) := by show _ = _; unfold dec; rw [hu]; rfl
                      clear hr4
                      simp only [Option.isSome_none]
                      clear hu
                      go_wp2_with (at_builtin; refine wpList_append_grew_str rfl (.tmp 132) (.tmp 133) 24 9 rfl W.heap.size 5 i0 Try.underlying24 Try.underlying9 hi0 hz0 hz1 hz2 _ D.length _ rfl HT4.out.own2 sg rfl (by unfold maxLen; omega) (by omega) hrz4 ?_)
                      intro v5 w5 hg5
                      have ht5 := HT4.out.step2 hg5 (by omega) (by decide) hrz4
                      clear hg5
                      obtain ⟨a6, c6, rfl, _⟩ := own_shape ht5.own2
                      obtain ⟨D2, hD2⟩ : ∃ D2, D ++ sg.data.toList = D2 := ⟨_, rfl⟩
                      have hl2 : D.length + sg.size = D2.length := by rw [← hD2]; simp
                      rw [strCells_eq, ← bcells_app, hD2, hl2] at ht5
                      rw [hl2]
                      have HD2 : Hid (D ++ sep E ++ dec (seg rest.data.toList (p, q)) = D2 ∧ D2.length ≤ D.length + 1 + rest.size) := ⟨by rw [HD1.out.1, ← HSG.out, HU.out]; exact hD2, by have := HD1.out.2; omega⟩
                      have hd2 : D2.length ≤ 1099520000000 := by omega
                      have HT5 : Hid (Two W w5 W.heap.size 3 (.slice none 0 0) 0 (.slice ea i ec) i (icells E) 5 (.slice none 0 0) 0 (.slice a6 D2.length c6) D2.length (bcells D2)) := ht5
                      have hrz5 : W.heap.size ≤ w5.heap.size := HT5.out.bel.size
                      clear ht5 hD2 hl2
                      go_wp2_with (at_builtin; refine wpList_append_grew rfl (.tmp 135) (.tmp 138) 23 rfl W.heap.size 3 i3 (.int .i64 0) 8 Try.underlying23 hi3 hy0 hy1 hy2 rfl _ i _ rfl (own_below HT5.out.own1 (bel_alloc _ _)) ⟨w5.heap.size, 0, none⟩ 1 1 [.int .i64 (D2.length : Int)] rfl rfl (cell_one_at rfl) one_cell (by unfold maxLen; omega) (by omega) (by simp; omega) ?_)
                      intro v7 w7 hg7
                      have HT7 : Hid (Two W w7 W.heap.size 3 (.slice none 0 0) 0 v7 (i + 1) (icells E ++ [.int .i64 (D2.length : Int)]) 5 (.slice none 0 0) 0 (.slice a6 D2.length c6) D2.length (bcells D2)) := (HT5.out.post (bel_alloc _ _) hrz5).step1 hg7 (by omega) (by decide) (by simp; omega)
                      clear hg7
                      go_wp2_with fail
                      go_roundw
                      case rel =>
                        refine ⟨i + 1, E ++ [(D2.length : Int)], D2, by simp, h, by rw [List.length_append, HN.out]; rfl, by rw [Nat.succ_mul, HM.out]; have := HD2.out.2; omega, ?_, ?_⟩
                        · rw [take_next HPQ.out, fold_snoc, ← HF.out, stp, if_pos rfl, HD2.out.1]; rfl
                        · rw [icells_app]; exact HT7.out
                      case measure => simp [intOf]; omega
                    | some r =>
                      obtain ⟨g4, c4, rfl, ho4⟩ := hr4 r hu
                      have HU : Hid (dec sg.data.toList = r) := by show _ = _; unfold dec; rw [hu]; rfl
                      have hrl : r.length ≤ sg.size := by have := unesc_length _ sg.data.toList (Nat.le_refl _) r hu; simpa using this
                      have HO4 : Hid (w4.ownsRow _ 5 1 (.slice (some ⟨g4, 0, none⟩) r.length c4) r.length (bcells r)) := ho4
                      clear hr4 ho4
                      simp only [Option.isSome_some]
                      clear hu
                      obtain ⟨rl, hrl'⟩ : ∃ rl, r.length = rl := ⟨_, rfl⟩
                      have HRL : Hid (r.length = rl) := hrl'
                      rw [hrl'] at hrl HO4 ⊢
                      clear hrl'
                      go_wp2_with (at_builtin; refine wpList_append_grew rfl (.tmp 129) (.tmp 130) 24 rfl W.heap.size 5 i0 (.int .u8 0) 1 Try.underlying24 hi0 hz0 hz1 hz2 rfl _ D.length _ rfl HT4.out.own2 ⟨g4, 0, none⟩ rl c4 (bcells r) rfl (by rw [bcells_len, HRL.out]; omega) (HO4.out.cells rfl) (bcells_one r) (by unfold maxLen; omega) (by omega) hrz4 ?_)
                      intro v5 w5 hg5
                      have ht5 := HT4.out.step2 hg5 (by omega) (by decide) hrz4
                      clear hg5
                      obtain ⟨a6, c6, rfl, _⟩ := own_shape ht5.own2
                      obtain ⟨D2, hD2⟩ : ∃ D2, D ++ r = D2 := ⟨_, rfl⟩
                      have hl2 : D.length + rl = D2.length := by rw [← hD2, List.length_append, HRL.out]
                      rw [← bcells_app, hD2, hl2] at ht5
                      rw [hl2]
                      have HD2 : Hid (D ++ sep E ++ dec (seg rest.data.toList (p, q)) = D2 ∧ D2.length ≤ D.length + 1 + rest.size) := ⟨by rw [HD1.out.1, ← HSG.out, HU.out]; exact hD2, by have := HD1.out.2; omega⟩
                      have hd2 : D2.length ≤ 1099520000000 := by omega
                      have HT5 : Hid (Two W w5 W.heap.size 3 (.slice none 0 0) 0 (.slice ea i ec) i (icells E) 5 (.slice none 0 0) 0 (.slice a6 D2.length c6) D2.length (bcells D2)) := ht5
                      have hrz5 : W.heap.size ≤ w5.heap.size := HT5.out.bel.size
                      clear ht5 hD2 hl2
                      go_wp2_with (at_builtin; refine wpList_append_grew rfl (.tmp 135) (.tmp 138) 23 rfl W.heap.size 3 i3 (.int .i64 0) 8 Try.underlying23 hi3 hy0 hy1 hy2 rfl _ i _ rfl (own_below HT5.out.own1 (bel_alloc _ _)) ⟨w5.heap.size, 0, none⟩ 1 1 [.int .i64 (D2.length : Int)] rfl rfl (cell_one_at rfl) one_cell (by unfold maxLen; omega) (by omega) (by simp; omega) ?_)
                      intro v7 w7 hg7
                      have HT7 : Hid (Two W w7 W.heap.size 3 (.slice none 0 0) 0 v7 (i + 1) (icells E ++ [.int .i64 (D2.length : Int)]) 5 (.slice none 0 0) 0 (.slice a6 D2.length c6) D2.length (bcells D2)) := (HT5.out.post (bel_alloc _ _) hrz5).step1 hg7 (by omega) (by decide) (by simp; omega)
                      clear hg7
                      go_wp2_with fail
                      go_roundw
                      case rel =>
                        refine ⟨i + 1, E ++ [(D2.length : Int)], D2, by simp, h, by rw [List.length_append, HN.out]; rfl, by rw [Nat.succ_mul, HM.out]; have := HD2.out.2; omega, ?_, ?_⟩
                        · rw [take_next HPQ.out, fold_snoc, ← HF.out, stp, if_pos rfl, HD2.out.1]; rfl
                        · rw [icells_app]; exact HT7.out
                      case measure => simp [intOf]; omega
                · obtain rfl : i = tk := by omega
                  go_wp2_with fail
                  refine bodyPost_ret (v := .tuple #[.bool true, .bool (decide (i < n)), .bool sl, .slice ea i ec, .slice da D.length dc]) (by simp [results, Try.results8, go_sem]) rfl ?_
                  exact model_done HR.out HBE.out HSL.out HMO.out HTK.out HN.out HF.out HT.out HP.out.1

end Go.Proofs.Qxb6606428a
