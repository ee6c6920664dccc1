/-
  appendUnescaped.
-/
import Derived.Test.Qxb6606428aLeafA
import Derived.Test.Qxb6606428aGrew
namespace Go.Proofs.Qxb6606428a
open Go.RowKit
set_option linter.unusedVariables false
set_option linter.unusedSimpArgs false

theorem Try.info5 : (Try.prog.info? 5).map (fun i => (i.zero, i.size, i.bytes)) = some (some (.int .u8 0), 1, 1) := by kernel_rfl
theorem Try.info3 : (Try.prog.info? 3).map (fun i => (i.zero, i.size, i.bytes)) = some (some (.int .i64 0), 1, 8) := by kernel_rfl

theorem cell_one_at {w : World} {v : Value} {e : TypeId} {z : Nat} (h : w.heap.size = z) : ∀ (j : Nat) (u : Value), [v][j]? = some u → (w.alloc (.cells #[v] e)).cell? ((⟨z, 0, none⟩ : Addr).add j) = some u := by
  subst h; exact cell_one_new _ _ _
theorem one_cell {k : IntKind} {x : Int} : ∀ u ∈ [Value.int k x], u.oneCell' = true := by intro u hu; simp at hu; subst hu; rfl

theorem split_at {l : List UInt8} {k : Nat} {c : UInt8} (h : l[k]? = some c) : l = l.take k ++ c :: l.drop (k + 1) := by
  obtain ⟨hk, e⟩ := List.getElem?_eq_some_iff.1 h
  rw [← e, ← List.drop_eq_getElem_cons hk, List.take_append_drop]
theorem unesc_bad_short {l : List UInt8} {k : Nat} (h : l[k]? = some 37) (hn : ∀ x ∈ l.take k, x ≠ 37) (hs : l.length ≤ k + 2) : unesc l = none := by
  rw [split_at h, unesc_app hn, unesc_short (by simp; omega)]; rfl
theorem unesc_hex {l : List UInt8} {k : Nat} {a b : UInt8} (h : l[k]? = some 37) (ha : l[k + 1]? = some a) (hb : l[k + 2]? = some b) (hn : ∀ x ∈ l.take k, x ≠ 37) :
    unesc l = if (hexok a && hexok b) = true then (unesc (l.drop (k + 3))).map ((l.take k ++ [hexb a b]) ++ ·) else none := by
  have e1 : l.drop (k + 1) = a :: b :: l.drop (k + 3) := by
    obtain ⟨hk1, e1⟩ := List.getElem?_eq_some_iff.1 ha
    obtain ⟨hk2, e2⟩ := List.getElem?_eq_some_iff.1 hb
    rw [List.drop_eq_getElem_cons hk1, e1, List.drop_eq_getElem_cons hk2, e2]
  conv => lhs; rw [split_at h, unesc_app hn, e1, unesc_pct]
  split
  · rw [Option.map_map]; congr 1; funext x; simp
  · rfl

theorem cutG {w w' : World} {B : Nat} {v : Value} {ds acc : List UInt8} {a1 : Option Addr} {c1 N : Nat} (h : Grew w w' B 5 v ds.length (.slice a1 N c1) N (bcells (ds ++ acc))) (hN : N = ds.length + acc.length) : Grew w w' B 5 v ds.length (.slice a1 ds.length c1) ds.length (bcells ds) := by
  subst hN
  obtain ⟨a, c, hv, hsh⟩ := own_shape h.own
  simp only [Value.slice.injEq, true_and] at hv
  obtain ⟨rfl, rfl⟩ := hv
  rcases hsh with ⟨rfl, hl, rfl⟩ | ⟨g, rfl, _⟩
  · have h1 : ds.length = 0 := by omega
    have h2 : acc.length = 0 := by omega
    rw [h2, List.eq_nil_of_length_eq_zero h2, List.append_nil] at h
    exact h
  · rw [bcells_app] at h
    exact h.cut (by rw [bcells_len])
theorem hex_or (a b : UInt8) (ha : hexok a = true) (hb : hexok b = true) : hexv a < 16 ∧ hexv b < 16 := by
  simp only [hexok, Bool.or_eq_true, Bool.and_eq_true, decide_eq_true_eq] at ha hb
  unfold hexv
  constructor
  · split <;> (try split) <;> omega
  · split <;> (try split) <;> omega

theorem unhex_any (c : UInt8) (w : World) : Calls Try.prog 23 #[.int .u8 (c.toNat : Int)] w fun e w' => ∃ (v : Int) (b : Bool), e = .returned (.tuple #[.int .u8 v, .bool b]) ∧ w' = w ∧ Hid (b = hexok c ∧ (b = true → v = hexv c)) := by
  by_cases h : hexok c = true
  · refine (unhex_yes c w h).mono ?_
    rintro e w' ⟨rfl, rfl⟩
    exact ⟨_, _, rfl, rfl, ⟨h.symm, fun _ => rfl⟩⟩
  · have h : hexok c = false := by simpa using h
    refine (unhex_no c w h).mono ?_
    rintro e w' ⟨rfl, rfl⟩
    exact ⟨_, _, rfl, rfl, ⟨h.symm, fun h => by cases h⟩⟩

theorem bits_or : ∀ x : Nat, x < 16 → ∀ y : Nat, y < 16 → bits BinOp.or IntKind.u8 ((x : Int) * 16) (y : Int) = ((x * 16 + y : Nat) : Int) := by decide
theorem bel_alloc (w : World) (o : Obj) : Below w.heap.size w (w.alloc o) := (Below.refl _ w).alloc (Nat.le_refl _) o
theorem ba_get (s : ByteArray) (k : Nat) (h : k < s.size) : s.data.toList[k]? = some (s[k]'h) := by
  rw [Array.getElem?_toList, Array.getElem?_eq_getElem (by simpa using h)]; rfl

def strLen : Value → Nat
  | .string b => b.size
  | _ => 0

/-- What is put out for a piece: its bytes decoded, or nothing. -/
def outOf (s : List UInt8) : List UInt8 := (unesc s).getD []

def UnPost (B : Nat) (v : Value) (ds : List UInt8) (s : List UInt8) (w : World) (e : Ending) (w' : World) : Prop :=
  ∃ v', e = .returned (.tuple #[v', .bool (unesc s).isSome]) ∧ Grew w w' B 5 v ds.length v' (ds ++ outOf s).length (bcells (ds ++ outOf s))

theorem un_ret {v : Value} {a b : Bool} (h : a = b) : Ending.returned (.tuple #[v, .bool a]) = .returned (.tuple #[v, .bool b]) := by rw [h]

def URel (B : Nat) (v : Value) (ds : List UInt8) (S : List UInt8) (w : World) (dv sv : Value) (wr : World) : Prop :=
  ∃ (acc : List UInt8) (s1 : ByteArray), sv = .string s1 ∧ Grew w wr B 5 v ds.length dv (ds ++ acc).length (bcells (ds ++ acc)) ∧ unesc S = (unesc s1.data.toList).map (acc ++ ·) ∧ acc.length + s1.size ≤ S.length

set_option maxRecDepth 100000 in
set_option maxHeartbeats 3200000 in
theorem unescaped_any (B : Nat) (a0 : Option Addr) (c0 : Nat) (ds : List UInt8) (s : ByteArray) (w : World) (ho : w.ownsRow B 5 1 (.slice a0 ds.length c0) ds.length (bcells ds)) (hs : s.size ≤ 1048576) (hd : ds.length ≤ 4194304) (hB : B ≤ w.heap.size) :
    Calls Try.prog 19 #[.slice a0 ds.length c0, .string s] w (UnPost B (.slice a0 ds.length c0) ds s.data.toList w) := by
  obtain ⟨i0, hi, hz0, hz1, hz2⟩ := info_parts Try.info5
  have HO : Hid (w.ownsRow B 5 1 (.slice a0 ds.length c0) ds.length (bcells ds)) := ho
  clear ho
  go_enter Try.func19, Try.ntmps19
  go_wp2_with fail
  go_loopw [0, 1] (fun dv sv wr => URel B (.slice a0 ds.length c0) ds s.data.toList w dv sv wr) (fun _ sv _ => strLen sv)
  case atStart => exact ⟨[], s, rfl, by simpa using Grew.refl HO.out, by simp, by simp⟩
  case round =>
    obtain ⟨acc, s1, rfl, hg, hu, hl⟩ := hrel
    obtain ⟨a1, c1, rfl, hsh⟩ := own_shape hg.own
    have hrz : B ≤ wr.heap.size := Nat.le_trans hB hg.grown.size
    have hsz : s.data.toList.length = s.size := by simp
    have hl' : acc.length + s1.size ≤ 1048576 := by omega
    obtain ⟨N, hN⟩ : ∃ N, N = (ds ++ acc).length := ⟨_, rfl⟩
    have hNe : N = ds.length + acc.length := by rw [hN]; simp
    rw [← hN] at hg hsh ⊢
    have HG : Hid (Grew w wr B 5 (.slice a0 ds.length c0) ds.length (.slice a1 N c1) N (bcells (ds ++ acc)) ∧ unesc s.data.toList = (unesc s1.data.toList).map (acc ++ ·) ∧ N = ds.length + acc.length ∧ acc.length + s1.size ≤ s.data.toList.length) := ⟨hg, hu, hNe, hl⟩
    have hNb : N ≤ 6000000 := by omega
    have hnN : ds.length ≤ N := by omega
    have hNs : N + s1.size ≤ 6000000 := by omega
    clear hg hu hl hNe hsz hN
    go_wp2_with fail
    refine (index_any s1 37 37 (by decide) wr).mono ?_
    rintro e w' ⟨r, rfl, hr, rfl⟩
    rcases hr with ⟨rfl, hp, hni⟩ | ⟨rfl, hp, hat, hno⟩
    · have HU : Hid (unesc s.data.toList = some (acc ++ s1.data.toList)) := by rw [HG.out.2.1, unesc_none fun c hc e => hni (e ▸ hc)]; rfl
      clear hp hni
      go_wp2_with (at_builtin; refine wpList_append_grew_str rfl (.tmp 18) (.tmp 19) 24 9 rfl B 5 i0 Try.underlying24 Try.underlying9 hi hz0 hz1 hz2 _ N _ rfl HG.out.1.own s1 rfl (by unfold maxLen; omega) (by omega) hrz ?_)
      intro v' w1 hg1
      have HF : Hid (Grew w w1 B 5 (.slice a0 ds.length c0) ds.length v' (N + s1.size) (bcells (ds ++ acc) ++ Lib.strCells s1)) := HG.out.1.trans hg1 hnN
      clear hg1
      go_wp2_with fail
      go_ret2
      refine ⟨v', un_ret (by rw [HU.out]; rfl), ?_⟩
      have e1 : ds ++ outOf s.data.toList = ds ++ acc ++ s1.data.toList := by unfold outOf; rw [HU.out]; simp
      have e2 : (ds ++ outOf s.data.toList).length = N + s1.size := by rw [e1, HG.out.2.2.1, List.length_append, List.length_append]; rfl
      rw [e2, e1, bcells_app (ds ++ acc)]
      exact HF.out
    · obtain ⟨k, hk⟩ : ∃ k, k = pre 37 s1.data.toList := ⟨_, rfl⟩
      rw [← hk] at hp hat hno ⊢
      have hsz : s1.data.toList.length = s1.size := by simp
      rw [hsz] at hp
      have HK : Hid (s1.data.toList[k]? = some 37 ∧ ∀ x ∈ s1.data.toList.take k, x ≠ 37) := ⟨hat, hno⟩
      clear hat hno hk hsz
      by_cases hsh2 : s1.size ≤ k + 2
      · have HU : Hid (unesc s.data.toList = none) := by rw [HG.out.2.1, unesc_bad_short HK.out.1 HK.out.2 (by simpa using hsh2)]; rfl
        have HF : Hid (Grew w w' B 5 (.slice a0 ds.length c0) ds.length (.slice a1 ds.length c1) ds.length (bcells ds)) := cutG HG.out.1 HG.out.2.2.1
        have e1 : ds ++ outOf s.data.toList = ds := by unfold outOf; rw [HU.out]; simp
        have hf : (unesc s.data.toList).isSome = false := by rw [HU.out]; rfl
        rcases hsh with ⟨rfl, hN0, rfl⟩ | ⟨g, rfl, hc1, hc2⟩
        · go_wp2_with fail
          go_ret2
          exact ⟨_, un_ret hf.symm, by rw [e1]; exact HF.out⟩
        · go_wp2_with fail
          go_ret2
          exact ⟨_, un_ret hf.symm, by rw [e1]; exact HF.out⟩
      · have hk2 : k + 2 < s1.size := by omega
        have HX : Hid (s1.data.toList[k + 1]? = some s1[k + 1] ∧ s1.data.toList[k + 2]? = some s1[k + 2]) := ⟨ba_get s1 _ _, ba_get s1 _ _⟩
        go_wp2_with fail
        refine (unhex_any s1[k + 1] w').mono ?_
        rintro e w2 ⟨vi, bi, rfl, rfl, HI⟩
        go_wp2_with fail
        refine (unhex_any s1[k + 2] w2).mono ?_
        rintro e w3 ⟨vo, bo, rfl, rfl, HJ⟩
        have HB : Hid (bi = hexok s1[k + 1] ∧ bo = hexok s1[k + 2] ∧ (bi = true → vi = hexv s1[k + 1]) ∧ (bo = true → vo = hexv s1[k + 2])) := ⟨HI.out.1, HJ.out.1, HI.out.2, HJ.out.2⟩
        clear HI HJ
        by_cases hbb : (bi && bo) = true
        · obtain ⟨rfl, rfl⟩ : bi = true ∧ bo = true := by simpa using hbb
          have hxs : (s1.extract 0 k).size = k := by simp; omega
          obtain ⟨x, y, rfl, rfl, hx, hy, HXY⟩ : ∃ x y : Nat, vi = x ∧ vo = y ∧ x < 16 ∧ y < 16 ∧ Hid (x = hexv s1[k + 1] ∧ y = hexv s1[k + 2]) := ⟨_, _, HB.out.2.2.1 rfl, HB.out.2.2.2 rfl, (hex_or _ _ HB.out.1.symm HB.out.2.1.symm).1, (hex_or _ _ HB.out.1.symm HB.out.2.1.symm).2, rfl, rfl⟩
          go_wp2_with (at_builtin; refine wpList_append_grew_str rfl (.tmp 54) (.tmp 57) 24 9 rfl B 5 i0 Try.underlying24 Try.underlying9 hi hz0 hz1 hz2 _ N _ rfl HG.out.1.own (s1.extract 0 k) rfl (by rw [hxs]; unfold maxLen; omega) (by rw [hxs]; omega) hrz ?_)
          intro v' w1 hg1
          have HF : Hid (Grew w w1 B 5 (.slice a0 ds.length c0) ds.length v' (N + k) (bcells (ds ++ acc) ++ Lib.strCells (s1.extract 0 k))) := HG.out.1.trans hg1 hnN
          clear hg1
          have hbits := bits_or x hx y hy
          obtain ⟨z, hz, HZ⟩ : ∃ z : UInt8, x * 16 + y = z.toNat ∧ Hid (z = hexb s1[k + 1] s1[k + 2]) := ⟨hexb s1[k + 1] s1[k + 2], by unfold hexb; rw [← HXY.out.1, ← HXY.out.2]; simp; omega, rfl⟩
          rw [hz] at hbits
          have HOK : Hid ((hexok s1[k + 1] && hexok s1[k + 2]) = true) := by rw [← HB.out.1, ← HB.out.2.1]; rfl
          clear hz HB
          have hrz1 : B ≤ w1.heap.size := Nat.le_trans hB HF.out.grown.size
          go_wp2_with (at_builtin; refine wpList_append_grew rfl (.tmp 58) (.tmp 63) 24 rfl B 5 i0 (.int .u8 0) 1 Try.underlying24 hi hz0 hz1 hz2 rfl v' (N + k) _ rfl (own_below HF.out.own (bel_alloc _ _)) ⟨w1.heap.size, 0, none⟩ 1 1 [.int .u8 (z.toNat : Int)] rfl rfl (cell_one_at rfl) one_cell (by unfold maxLen; omega) (by omega) (by simp; omega) ?_)
          intro v2 w2 hg2
          have HF2 : Hid (Grew w w2 B 5 (.slice a0 ds.length c0) ds.length v2 (N + k + 1) (bcells (ds ++ acc) ++ (Lib.strCells (s1.extract 0 k) ++ [.int .u8 (z.toNat : Int)]))) := (HF.out.post (bel_alloc _ _)).trans hg2 (by omega)
          clear hg2 HF
          go_wp2_with fail
          go_roundw
          case rel =>
            have hex : (s1.extract (k + 3) s1.size).data.toList = s1.data.toList.drop (k + 3) := by
              rw [ByteArray.data_extract, Array.toList_extract, List.extract_eq_take_drop]
              exact List.take_of_length_le (by simp)
            have htk : (s1.extract 0 k).data.toList = s1.data.toList.take k := by
              rw [ByteArray.data_extract, Array.toList_extract, List.extract_eq_take_drop]; simp
            refine ⟨acc ++ (s1.data.toList.take k ++ [z]), s1.extract (k + 3) s1.size, rfl, ?_, ?_, ?_⟩
            · have e1 : (ds ++ (acc ++ (s1.data.toList.take k ++ [z]))).length = N + k + 1 := by
                rw [HG.out.2.2.1]; simp; omega
              have e2 : bcells (ds ++ (acc ++ (s1.data.toList.take k ++ [z]))) = bcells (ds ++ acc) ++ (Lib.strCells (s1.extract 0 k) ++ [.int .u8 (z.toNat : Int)]) := by
                rw [strCells_eq, htk, ← List.append_assoc, bcells_app, bcells_app (List.take k _)]; rfl
              rw [e1, e2]
              exact HF2.out
            · rw [HG.out.2.1, unesc_hex HK.out.1 HX.out.1 HX.out.2 HK.out.2, if_pos HOK.out, ← HZ.out, hex, Option.map_map]
              congr 1
              funext q
              simp
            · have := HG.out.2.2.2
              simp
              simp at this
              omega
          case measure =>
            simp [strLen]
            omega
        · have HU : Hid (unesc s.data.toList = none) := by
            rw [HG.out.2.1, unesc_hex HK.out.1 HX.out.1 HX.out.2 HK.out.2, if_neg (by rw [← HB.out.1, ← HB.out.2.1]; exact hbb)]; rfl
          have HF : Hid (Grew w w3 B 5 (.slice a0 ds.length c0) ds.length (.slice a1 ds.length c1) ds.length (bcells ds)) := cutG HG.out.1 HG.out.2.2.1
          have e1 : ds ++ outOf s.data.toList = ds := by unfold outOf; rw [HU.out]; simp
          have hf : (unesc s.data.toList).isSome = false := by rw [HU.out]; rfl
          clear HB
          rcases hsh with ⟨rfl, hN0, rfl⟩ | ⟨g, rfl, hc1, hc2⟩ <;> cases bi <;> cases bo <;> first | (exact absurd rfl hbb) | skip
          all_goals
            clear hbb
            go_wp2_with fail
            go_ret2
            exact ⟨_, un_ret hf.symm, by rw [e1]; exact HF.out⟩

end Go.Proofs.Qxb6606428a
