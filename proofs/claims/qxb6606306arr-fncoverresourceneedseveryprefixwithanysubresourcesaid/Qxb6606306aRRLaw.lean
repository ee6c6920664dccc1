/-
  The law's walk where the text is short and no star.
-/
import Derived.Test.Qxb6606306aRRTop
namespace Go.Proofs.Qxb6606306aRR
open Go.RowKit
set_option linter.unusedVariables false
set_option linter.unusedSimpArgs false

theorem Try.info9 : (Try.prog.info? 9).map (fun i => (i.zero, i.size, i.bytes)) = some (some (.string { data := #[] }), 1, 16) := by kernel_rfl

def strs (l : List ByteArray) : List Value := l.map Value.string
def keptNames (res : ByteArray) (drop : Int) (i : Nat) : List ByteArray := (kept (slash res) drop i).map fun j => res.extract 0 j

theorem own_names {w : World} {b : Nat} {v : Value} {n : Nat} {l : List ByteArray} (h : w.ownsRow b 9 1 v n (strs l)) : ∃ A cp, v = .slice A n cp ∧ Names w A n l := by
  have hl : l.length = n := by simpa [strs] using h.1
  rcases h.2 with ⟨rfl, rfl⟩ | ⟨g, cap, cur, rfl, hb, hg, r⟩
  · exact ⟨none, 0, rfl, hl, fun j hj => by omega⟩
  · refine ⟨some ⟨g, 0, none⟩, cap, rfl, hl, fun j hj => ⟨g, rfl, ?_⟩⟩
    rw [h.cellAt j (by omega)]
    simp [strs, hj]

def LawRel (res : ByteArray) (drop : Int) (w : World) (v9 v10 v11 : Value) (wr : World) : Prop :=
  ∃ i : Nat, i ≤ res.size ∧ v11 = .int .i64 i ∧ v10 = .int .i64 (cnt (slash res) i) ∧ wr.ownsRow w.heap.size 9 1 v9 (keptNames res drop i).length (strs (keptNames res drop i)) ∧ Below w.heap.size w wr

theorem kept_hit {res : ByteArray} {drop : Int} {i : Nat} (hf : slash res i = true) (hd : (cnt (slash res) i : Int) ≠ drop) : keptNames res drop (i + 1) = keptNames res drop i ++ [res.extract 0 i] := by
  unfold keptNames; rw [kept, if_pos hf, if_pos hd]; simp
theorem kept_drop {res : ByteArray} {drop : Int} {i : Nat} (hf : slash res i = true) (hd : ¬ (cnt (slash res) i : Int) ≠ drop) : keptNames res drop (i + 1) = keptNames res drop i := by
  unfold keptNames; rw [kept, if_pos hf, if_neg hd]
theorem kept_none {res : ByteArray} {drop : Int} {i : Nat} (hf : ¬ slash res i = true) : keptNames res drop (i + 1) = keptNames res drop i := by
  unfold keptNames; rw [kept, if_neg hf]
theorem cnt_hit1 {res : ByteArray} {i : Nat} (hf : slash res i = true) : cnt (slash res) (i + 1) = cnt (slash res) i + 1 := by rw [cnt, if_pos hf]
theorem cnt_none {res : ByteArray} {i : Nat} (hf : ¬ slash res i = true) : cnt (slash res) (i + 1) = cnt (slash res) i := by rw [cnt, if_neg hf]; rfl
theorem names_all {res : ByteArray} {drop : Int} (hd : (cnt (slash res) res.size : Int) ≠ drop) : names res drop = keptNames res drop res.size ++ [res] := by
  unfold names lens keptNames; rw [if_pos hd]; simp
theorem names_drop {res : ByteArray} {drop : Int} (hd : ¬ (cnt (slash res) res.size : Int) ≠ drop) : names res drop = keptNames res drop res.size := by
  unfold names lens keptNames; rw [if_neg hd]
theorem keptNames_len (res : ByteArray) (drop : Int) (i : Nat) : (keptNames res drop i).length ≤ i := by
  have := kept_length (slash res) drop i; simpa [keptNames] using this

theorem cell_one_at {w : World} {v : Value} {e : TypeId} {z : Nat} (h : w.heap.size = z) : ∀ (j : Nat) (u : Value), [v][j]? = some u → (w.alloc (.cells #[v] e)).cell? ((⟨z, 0, none⟩ : Addr).add j) = some u := by
  subst h; exact cell_one_new _ _ _
theorem one_str {s : ByteArray} : ∀ u ∈ [Value.string s], u.oneCell' = true := by intro u hu; simp at hu; subst hu; rfl

/-- The text is neither the star nor begins with star, slash. -/
def Plain (res : ByteArray) : Prop := res ≠ { data := #[42] } ∧ ∀ (h : 2 ≤ res.size), ¬ ((res[0].toNat : Int) = 42 ∧ (res[1].toNat : Int) = 47)

theorem ret_bool {a b : Bool} (h : a = b) : Ending.returned (.bool a) = .returned (.bool b) := by rw [h]

/-- The world behind the law's own grant. -/
def granted (W : World) (v g : ByteArray) (A : Option Addr) (n cp : Nat) : World :=
  ((((W.alloc (.cells #[.string v] 9)).alloc (.cells #[.string g] 9)).alloc
    (.cells #[.slice (some ⟨W.heap.size, 0, none⟩) 1 1, .slice (some ⟨W.heap.size + 1, 0, none⟩) 1 1, .slice A n cp, .slice none 0 0, .slice none 0 0, .bool true] 26)).alloc
    (.cells #[.slice (some ⟨W.heap.size, 0, none⟩) 1 1, .slice (some ⟨W.heap.size + 1, 0, none⟩) 1 1, .slice A n cp, .slice none 0 0, .slice none 0 0, .bool true] 26)).alloc
    (.cells #[.slice (some ⟨W.heap.size + 1 + 1 + 1, 0, none⟩) 1 1, .slice none 0 0] 32)
theorem granted_below (W : World) (v g : ByteArray) (A : Option Addr) (n cp : Nat) : Below W.heap.size W (granted W v g A n cp) :=
  (((((Below.refl _ W).alloc (Nat.le_refl _) _).alloc (by simp) _).alloc (by simp; omega) _).alloc (by simp; omega) _).alloc (by simp; omega) _

theorem granted_trans {w W w3 : World} {v g : ByteArray} {A : Option Addr} {n cp : Nat} (h : Below w.heap.size w W) (h3 : Below (granted W v g A n cp).heap.size (granted W v g A n cp) w3) : Below w.heap.size w w3 :=
  (h.trans ((granted_below W v g A n cp).mono h.size)).trans (h3.mono (Nat.le_trans h.size (granted_below W v g A n cp).size))

theorem build_granted (W : World) (A : Option Addr) (n cp : Nat) (names : List ByteArray) (v g : ByteArray) (hn : n ≤ 1048576) (hnm : Names W A n names) (hnd : names.Nodup) :
    Calls Try.prog 7 #[.slice (some ⟨W.heap.size + 1 + 1 + 1 + 1, 0, none⟩) 1 1] (granted W v g A n cp) (BuildPost v g names (granted W v g A n cp)) := by
  refine build_any (W.heap.size + 1 + 1 + 1 + 1) (W.heap.size + 1 + 1 + 1) W.heap.size (W.heap.size + 1) A n cp names v g _ hn ?_ ?_ ?_ ?_ ?_ (hnm.below (granted_below W v g A n cp)) hnd
  case refine_3 =>
    unfold granted
    refine Six.alloc ?_ _
    constructor
    all_goals
      simp (disch := (first | omega | (simp; done) | (simp; omega))) only [World.cell?_alloc_past, World.cell?_alloc_at]
      rfl
  all_goals
    unfold granted
    simp (disch := (first | omega | (simp; done) | (simp; omega))) only [World.cell?_alloc_past, World.cell?_alloc_at]
    rfl

theorem star_rev {res : ByteArray} {drop : Int} (h : Plain res) : ({ data := #[42] } : ByteArray) ∉ (names res drop).reverse := by
  rw [List.mem_reverse]; exact star_not h.1 h.2

theorem covered_of {res : ByteArray} {drop : Int} {x : Bool} (h : x = true ↔ (drop < 0 ∨ (cnt (slash res) res.size : Int) < drop)) : Covered x res (names res drop).reverse := by
  unfold Covered Parts
  rw [h, ← covered_iff]
  simp only [List.mem_reverse]

theorem answer (res : ByteArray) (drop : Int) : (drop < 0 ∧ Hid (Covered true res (names res drop).reverse)) ∨ (¬ drop < 0 ∧ (cnt (slash res) res.size : Int) < drop ∧ Hid (Covered true res (names res drop).reverse)) ∨
    (¬ drop < 0 ∧ ¬ (cnt (slash res) res.size : Int) < drop ∧ Hid (Covered false res (names res drop).reverse)) := by
  by_cases h1 : drop < 0
  · exact .inl ⟨h1, covered_of (by simp [h1])⟩
  · by_cases h2 : (cnt (slash res) res.size : Int) < drop
    · exact .inr (.inl ⟨h1, h2, covered_of (by simp [h2])⟩)
    · exact .inr (.inr ⟨h1, h2, covered_of (by simp; omega)⟩)

set_option maxRecDepth 100000 in
set_option maxHeartbeats 3200000 in
theorem law_main (v g res : ByteArray) (drop : Int) (w : World) (h0 : v.size ≤ maxLen) (h1 : g.size ≤ maxLen) (hs : res.size ≤ 4096) (hwf : (Lit.int .i64 drop).wf = true) :
    Calls Try.prog 3 #[.string v, .string g, .string res, .int .i64 drop] w fun e w' => e = .returned (.bool true) ∧ Below w.heap.size w w' := by
  obtain ⟨i0, hi, hz0, hz1, hz2⟩ := info_parts Try.info9
  go_enter Try.func3, Try.ntmps3
  go_wp2_with fail
  refine (bytes_any v g res drop w h0 h1 (by unfold maxLen; omega)).mono ?_
  rintro e w' ⟨b, rfl, rfl⟩
  cases b with
  | false =>
    go_wp2_with fail
    go_ret
    exact ⟨rfl, Below.refl _ _⟩
  | true =>
    go_wp2_with fail
    refine (text_any v g res _ w' h0 h1 (by unfold maxLen; omega) (by unfold maxLen; decide)).mono ?_
    rintro e w ⟨x, rfl, rfl⟩
    by_cases hx : 1048576 < x
    · go_wp2_with fail
      go_ret
      exact ⟨rfl, Below.refl _ _⟩
    · have hxd : decide (1048576 < x) = false := decide_eq_false hx
      have hsd : decide ((4096 : Int) < res.size) = false := decide_eq_false (by omega)
      by_cases hst : (res.toList == [42]) = true
      · go_wp2_with fail
        go_ret
        exact ⟨rfl, Below.refl _ _⟩
      have hst' : (res.toList == [42]) = false := by simpa using hst
      clear hst
      have hne : res ≠ { data := #[42] } := by
        rintro rfl; simp at hst'
      have HN : Hid (res ≠ { data := #[42] }) := hne
      clear hne
      have hcs : (decide ((2 : Int) ≤ res.size) = false ∧ Plain res) ∨ ∃ h2 : 2 ≤ res.size, ((((res[0].toNat : Int) == 42) = false ∧ Plain res) ∨ (((res[0].toNat : Int) == 42) = true ∧ ((res[1].toNat : Int) == 47) = false ∧ Plain res) ∨ (((res[0].toNat : Int) == 42) = true ∧ ((res[1].toNat : Int) == 47) = true)) := by
        by_cases h2 : 2 ≤ res.size
        · refine .inr ⟨h2, ?_⟩
          by_cases ha : (res[0].toNat : Int) = 42
          · by_cases hb : (res[1].toNat : Int) = 47
            · exact .inr (.inr ⟨by simpa using ha, by simpa using hb⟩)
            · exact .inr (.inl ⟨by simpa using ha, by simpa using hb, HN.out, fun _ h => hb h.2⟩)
          · exact .inl ⟨by simpa using ha, HN.out, fun _ h => ha h.1⟩
        · exact .inl ⟨decide_eq_false (by omega), HN.out, fun h => absurd h h2⟩
      clear HN
      rcases hcs with ⟨t1, hpl⟩ | ⟨h2, ⟨t1, hpl⟩ | ⟨t1, t2, hpl⟩ | ⟨t1, t2⟩⟩
      case' inr.inl => have hd2 : decide ((2 : Int) ≤ res.size) = true := decide_eq_true (by omega)
      case' inr.inr.inl => have hd2 : decide ((2 : Int) ≤ res.size) = true := decide_eq_true (by omega)
      case inr.inr.inr =>
        have hd2 : decide ((2 : Int) ≤ res.size) = true := decide_eq_true (by omega)
        go_wp2_with fail
        go_ret
        exact ⟨rfl, Below.refl _ _⟩
      all_goals
        have HP : Hid (Plain res) := hpl
        clear hpl
        go_wp2_with fail
        go_loopw [9, 10, 11] (fun v9 v10 v11 wr => LawRel res drop w v9 v10 v11 wr) (fun _ _ v11 _ => res.size - (intOf v11).toNat)
        case atStart => exact ⟨0, Nat.zero_le _, rfl, rfl, World.ownsRow_nil _ _ _ _, Below.refl _ _⟩
        case round =>
          obtain ⟨i, hir, rfl, rfl, hown, hbel⟩ := hrel
          obtain ⟨A, cp, rfl, hnm⟩ := own_names hown
          have HO : Hid (wr.ownsRow w.heap.size 9 1 (.slice A (keptNames res drop i).length cp) (keptNames res drop i).length (strs (keptNames res drop i)) ∧ Below w.heap.size w wr ∧ Names wr A (keptNames res drop i).length (keptNames res drop i)) := ⟨hown, hbel, hnm⟩
          have hrz := hbel.size
          clear hown hbel hnm
          have hkl := keptNames_len res drop i
          have hcn := cnt_le (slash res) i
          by_cases hlt : i < res.size
          · by_cases hsl : (res[i].toNat : Int) = 47
            · have HF : Hid (slash res i = true) := (slash_of hlt).2 hsl
              have hsl' : ((res[i].toNat : Int) == 47) = true := by simpa using hsl
              clear hsl
              by_cases hd : (cnt (slash res) i : Int) = drop
              · have HD : Hid (¬ (cnt (slash res) i : Int) ≠ drop) := fun h => h hd
                have hd' : ((cnt (slash res) i : Int) != drop) = false := by simpa using hd
                clear hd
                go_wp2_with fail
                go_roundw
                case rel => exact ⟨i + 1, by omega, by go_num, by rw [cnt_hit1 HF.out]; go_num, by rw [kept_drop HF.out HD.out]; exact HO.out.1, HO.out.2.1⟩
                case measure => simp [intOf]; omega
              · have HD : Hid ((cnt (slash res) i : Int) ≠ drop) := hd
                have hd' : ((cnt (slash res) i : Int) != drop) = true := by simpa using hd
                clear hd
                go_wp2_with (at_builtin; refine wpList_append_own _ rfl (.tmp 61) (.tmp 65) 24 rfl w.heap.size 9 i0 (.string { data := #[] }) 1 16 Try.underlying24 hi hz0 hz1 hz2 rfl (by decide) _ _ _ rfl (HO.out.1.alloc _) ⟨wr.heap.size, 0, none⟩ 1 1 [.string (res.extract 0 i)] rfl rfl (cell_one_at rfl) one_str (by unfold maxLen; omega) (by omega) (by simp; omega) ?_)
                intro v' w1 hown' hgrow _
                have HG : Hid (w1.ownsRow w.heap.size 9 1 v' (keptNames res drop (i + 1)).length (strs (keptNames res drop (i + 1))) ∧ Below w.heap.size w w1) := ⟨by rw [kept_hit HF.out HD.out]; simpa [strs] using hown', (HO.out.2.1.alloc hrz _).grown hgrow (by simp; omega) (fun k e => (HO.out.1.lt k e).1)⟩
                clear hown' hgrow
                go_wp2_with fail
                go_roundw
                case rel => exact ⟨i + 1, by omega, by go_num, by rw [cnt_hit1 HF.out]; go_num, HG.out.1, HG.out.2⟩
                case measure => simp [intOf]; omega
            · have HF : Hid (¬ slash res i = true) := fun h => hsl ((slash_of hlt).1 h)
              have hsl' : ((res[i].toNat : Int) == 47) = false := by simpa using hsl
              clear hsl
              go_wp2_with fail
              go_roundw
              case rel => exact ⟨i + 1, by omega, by go_num, by rw [cnt_none HF.out], by rw [kept_none HF.out]; exact HO.out.1, HO.out.2.1⟩
              case measure => simp [intOf]; omega
          · have hie : i = res.size := by omega
            subst hie
            by_cases hd : (cnt (slash res) res.size : Int) = drop
            case' pos =>
              have HD : Hid (names res drop = keptNames res drop res.size) := names_drop (fun h => h hd)
              have hd' : ((cnt (slash res) res.size : Int) != drop) = false := by simpa using hd
              obtain ⟨W, hW⟩ : ∃ W, W = wr := ⟨_, rfl⟩
              obtain ⟨n, hn⟩ : ∃ n, n = (keptNames res drop res.size).length := ⟨_, rfl⟩
              have HQ : Hid (Names W A n (names res drop) ∧ Below w.heap.size w W) := ⟨by rw [HD.out, hW, hn]; exact HO.out.2.2, by rw [hW]; exact HO.out.2.1⟩
              have hnb : n ≤ 4097 := by omega
              rw [← hn, ← hW]
              clear hn hW hd HO HD
              go_wp2_with fail
            case' neg =>
              have HD : Hid (names res drop = keptNames res drop res.size ++ [res]) := names_all hd
              have hd' : ((cnt (slash res) res.size : Int) != drop) = true := by simpa using hd
              clear hd
              go_wp2_with (at_builtin; refine wpList_append_own _ rfl (.tmp 72) (.tmp 74) 24 rfl w.heap.size 9 i0 (.string { data := #[] }) 1 16 Try.underlying24 hi hz0 hz1 hz2 rfl (by decide) _ _ _ rfl (HO.out.1.alloc _) ⟨wr.heap.size, 0, none⟩ 1 1 [.string res] rfl rfl (cell_one_at rfl) one_str (by unfold maxLen; omega) (by omega) (by simp; omega) ?_)
              intro v' W hown' hgrow _
              obtain ⟨A, cp, rfl, hnm⟩ := own_names (l := names res drop) (by rw [HD.out]; simpa [strs] using hown')
              have HQ : Hid (Names W A _ (names res drop) ∧ Below w.heap.size w W) := ⟨hnm, (HO.out.2.1.alloc hrz _).grown hgrow (by simp; omega) (fun k e => (HO.out.1.lt k e).1)⟩
              have hnb : (keptNames res drop res.size).length + 1 ≤ 4097 := by omega
              clear hown' hgrow hnm HO HD
              go_wp2_with fail
            all_goals
              refine (build_granted W A _ cp (names res drop) v g (by omega) HQ.out.1 (names_nodup res drop)).mono ?_
              rintro e w3 ⟨C, M, rfl, hc3, ha3, hb3⟩
              have HQ3 : Hid (w3.cell? ⟨C, 1, none⟩ = some (.map (some M)) ∧ Acts w3 M v g (names res drop).reverse ∧ Below w.heap.size w w3) := ⟨hc3, ha3, granted_trans HQ.out.2 hb3⟩
              clear hc3 ha3 hb3 HQ
              have hz3 := HQ3.out.2.2.size
              rcases answer res drop with ⟨q1, hx3⟩ | ⟨q1, q2, hx3⟩ | ⟨q1, q2, hx3⟩
              all_goals
                have HX3 := hx3
                clear hx3
                go_wp2_with fail
                refine (zzCover_any w3.heap.size C M v g res (names res drop).reverse _ _ hs (by simp) (cell_alloc _ HQ3.out.1) (HQ3.out.2.1.alloc _) (star_rev HP.out) HX3.out).mono ?_
                rintro e w4 ⟨rfl, hb4⟩
                go_wp2_with fail
                go_ret
                exact ⟨ret_bool (by first | rfl | (simp; omega)), (HQ3.out.2.2.alloc hz3 _).trans (hb4.mono (by simp; omega))⟩

set_option maxHeartbeats 800000 in
theorem law_big (v g res : ByteArray) (drop : Int) (w : World) (h0 : v.size ≤ maxLen) (h1 : g.size ≤ maxLen) (h2 : res.size ≤ maxLen) (hs : ¬ res.size ≤ 4096) :
    Calls Try.prog 3 #[.string v, .string g, .string res, .int .i64 drop] w fun e w' => e = .returned (.bool true) ∧ Below w.heap.size w w' := by
  have hsd : decide ((4096 : Int) < res.size) = true := decide_eq_true (by omega)
  go_enter Try.func3, Try.ntmps3
  go_wp2_with fail
  refine (bytes_any v g res drop w h0 h1 h2).mono ?_
  rintro e w' ⟨b, rfl, rfl⟩
  cases b with
  | false =>
    go_wp2_with fail
    go_ret
    exact ⟨rfl, Below.refl _ _⟩
  | true =>
    go_wp2_with fail
    go_ret
    exact ⟨rfl, Below.refl _ _⟩

end Go.Proofs.Qxb6606306aRR
