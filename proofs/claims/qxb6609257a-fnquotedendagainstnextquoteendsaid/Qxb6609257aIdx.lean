/-
  bytes.IndexByte, the charset's indexByte and charStart.
-/
import Derived.Test.Qxb6609257aPair
import Derived.Test.Qxb6609257aPlain
import Derived.Lib.BytesEntry
import Derived.Lib.IndexLaws
namespace Go.Proofs.Qxb6609257a
open Go.RowKit
set_option linter.unusedVariables false
set_option linter.unusedSimpArgs false

theorem byteIndex_any (b o n c : Nat) (xs : List Int) (cv : Int) (w : World) (hx : xs.length = n)
    (hc : ∀ i, i < n → w.cell? ⟨b, o + i, none⟩ = some (.int .u8 (xs.getD i 0))) :
    Calls Try.prog 21 #[.slice (some ⟨b, o, none⟩) n c, .int .u8 cv] w fun e w' => e = .returned (.int .i64 (Lib.indexByte (Lib.bytesOf xs) cv.toNat.toUInt8)) ∧ w' = w := by
  go_enter Try.func21, Try.ntmps21
  go_wp2
  rw [run_callFunc_extern Try.func23 (by kernel_rfl) (by kernel_rfl) (by kernel_rfl) (e := Extern.BytealgIndexByte.indexByte) (by kernel_rfl), Lib.run_indexByteSlice w b o n c xs hx hc cv]
  simp only [Result.andThen]
  rw [Oper.upon_value]
  go_wp2
  go_ret
  exact ⟨rfl, rfl⟩

/-- What a look for the byte q among the m bytes from place o on answers. -/
def IdxRes (t : Nat → Nat) (o m q : Nat) (r : Int) : Prop :=
  (r = -1 ∧ ∀ j, j < m → t (o + j) ≠ q) ∨ ∃ k : Nat, k < m ∧ r = k ∧ t (o + k) = q ∧ ∀ j, j < k → t (o + j) ≠ q

theorem u8_eq {x c : Nat} (hx : x < 256) (hc : c < 256) : (UInt8.ofNat ((x : Int).toNat) = ((c : Int).toNat).toUInt8) ↔ x = c := by
  constructor
  · intro h
    have := congrArg UInt8.toNat h
    simp [Nat.toUInt8] at this
    omega
  · rintro rfl; rfl

theorem idxRes_of (t : Nat → Nat) (o m c : Nat) (hb : ∀ j, t j < 256) (hc : c < 256) :
    IdxRes t o m c (Lib.indexByte (Lib.bytesOf ((List.range m).map fun j => (t (o + j) : Int))) ((c : Int).toNat).toUInt8) := by
  have hg : ∀ k, k < m → (Lib.bytesOf ((List.range m).map fun j => (t (o + j) : Int)))[k]? = some (UInt8.ofNat ((t (o + k) : Int)).toNat) := by
    intro k hk; simp [Lib.bytesOf, hk]
  have hge := Lib.indexByte_ge (Lib.bytesOf ((List.range m).map fun j => (t (o + j) : Int))) ((c : Int).toNat).toUInt8
  by_cases h : Lib.indexByte (Lib.bytesOf ((List.range m).map fun j => (t (o + j) : Int))) ((c : Int).toNat).toUInt8 = -1
  · refine .inl ⟨h, fun j hj e => ?_⟩
    refine Lib.indexByte_none h j ?_
    rw [hg j hj, (u8_eq (hb _) hc).2 e]
  · obtain ⟨k, hk⟩ : ∃ k : Nat, Lib.indexByte (Lib.bytesOf ((List.range m).map fun j => (t (o + j) : Int))) ((c : Int).toNat).toUInt8 = k := ⟨(Lib.indexByte (Lib.bytesOf ((List.range m).map fun j => (t (o + j) : Int))) ((c : Int).toNat).toUInt8).toNat, by omega⟩
    obtain ⟨h1, h2⟩ := Lib.indexByte_some hk
    have hkm : k < m := by
      have := (List.getElem?_eq_some_iff.1 h1).1
      simpa [Lib.bytesOf] using this
    refine .inr ⟨k, hkm, hk, ?_, fun j hj e => ?_⟩
    · rw [hg k hkm] at h1
      exact (u8_eq (hb _) hc).1 (Option.some.inj h1)
    · refine h2 j hj ?_
      rw [hg j (by omega), (u8_eq (hb _) hc).2 e]

theorem index_at (T o m c : Nat) (t : Nat → Nat) (q : Nat) (w : World) (hb : ∀ j, t j < 256) (hq : q < 256) (htx : ∀ i, i < m → w.cell? ⟨T, o + i, none⟩ = some (.int .u8 (t (o + i) : Int))) :
    Calls Try.prog 21 #[.slice (some ⟨T, o, none⟩) m c, .int .u8 (q : Int)] w fun e w' => ∃ r : Int, e = .returned (.int .i64 r) ∧ Hid (IdxRes t o m q r) ∧ w' = w := by
  refine (byteIndex_any T o m c ((List.range m).map fun j => (t (o + j) : Int)) (q : Int) w (by simp) (fun i hi => ?_)).mono ?_
  · rw [htx i hi]; simp [hi]
  · rintro e w' ⟨rfl, rfl⟩
    exact ⟨_, rfl, idxRes_of t o m q hb hq, rfl⟩

/-! ### no pairs -/
theorem idx_scan {n : Nat} {p : Nat → Bool} {t : Nat → Nat} {q : Nat} (hp : ∀ k, p k = false) : ∀ (k f : Nat), f + k ≤ n → (∀ j, j < k → t (f + j) ≠ q) → idx n p t q f = idx n p t q (f + k)
  | 0, f, _, _ => rfl
  | k + 1, f, h, hno => by
    rw [idx_lt (show f < n by omega), if_neg (by rw [hp]; simp), if_neg (by have := hno 0 (by omega); simpa using this), idx_scan hp k (f + 1) (by omega) fun j hj => by have := hno (j + 1) (by omega); rwa [show f + 1 + j = f + (j + 1) by omega]]
    congr 1
    omega
theorem idx_res {n : Nat} {p : Nat → Bool} {t : Nat → Nat} {q f m : Nat} {r : Int} (hp : ∀ k, p k = false) (hm : f + m = n) (h : IdxRes t f m q r) : (r = -1 ∧ idx n p t q f = -1) ∨ ∃ k : Nat, r = k ∧ idx n p t q f = ((f + k : Nat) : Int) ∧ f + k < n := by
  rcases h with ⟨rfl, h⟩ | ⟨k, hk, rfl, hq, h⟩
  · exact .inl ⟨rfl, by rw [idx_scan hp m f (by omega) h, idx_ge (by omega)]⟩
  · exact .inr ⟨k, rfl, by rw [idx_scan hp k f (by omega) h, idx_lt (by omega), if_neg (by rw [hp]; simp), if_pos hq], by omega⟩

def IRel (n : Nat) (p : Nat → Bool) (t : Nat → Nat) (q f : Nat) (w : World) (iv : Value) (wr : World) : Prop := ∃ j m : Nat, iv = .int .i64 j ∧ j ≤ n + 1 ∧ wr = w.drewN m ∧ Hid (idx n p t q f = idx n p t q j)

set_option maxRecDepth 100000 in
set_option maxHeartbeats 3200000 in
theorem indexByte_any (T n c : Nat) (t : Nat → Nat) (cs : Option Addr) (has : Bool) (ld tr : Nat → Bool) (f q : Nat) (w : World) (hm : Mem w T n t cs has ld tr) (hf : f ≤ n) (hn : n ≤ 1048576) (hc : n ≤ c ∧ c ≤ 9223372036854775807) (hq : q < 256) :
    Calls Try.prog 19 #[.pointer cs, .slice (some ⟨T, 0, none⟩) n c, .int .i64 (f : Int), .int .u8 (q : Int)] w (RPost (.int .i64 (idx n (pr n t has ld tr) t q f)) w) := by
  have HM : Hid (Mem w T n t cs has ld tr) := hm
  rcases hm.cs with ⟨rfl, rfl⟩ | ⟨rfl, g, rfl, hl, ht⟩
  · clear hm
    have hpf : ∀ k, pr n t false ld tr k = false := fun k => rfl
    by_cases hfc : f < c
    · go_enter Try.func19, Try.ntmps19
      go_wp2_with fail
      refine (index_at T f (n - f) (c - f) t q w HM.out.byte hq (fun i hi => HM.out.txt (f + i) (by omega))).mono ?_
      rintro e w' ⟨r, rfl, HI, hw⟩
      have hw' := hw.symm
      subst hw'
      clear hw
      rcases idx_res (n := n) hpf (by omega) HI.out with ⟨rfl, hx⟩ | ⟨k, rfl, hx, hk⟩
      · have HX : Hid (idx n (pr n t false ld tr) t q f = -1) := hx
        clear hx hpf
        go_wp2_with fail
        go_ret
        exact ⟨by rw [HX.out]; rfl, 0, rfl⟩
      · have HX : Hid (idx n (pr n t false ld tr) t q f = ((f + k : Nat) : Int)) := hx
        clear hx hpf
        go_wp2_with fail
        go_ret
        exact ⟨by rw [HX.out]; simp, 0, rfl⟩
    · have hnf : n = f := by omega
      have HX : Hid (idx n (pr n t false ld tr) t q f = -1) := idx_ge (by omega)
      have hcf : c = f := by omega
      subst hcf
      subst hnf
      go_enter Try.func19, Try.ntmps19
      go_wp2_with fail
      refine (index_at T 0 0 0 t q w HM.out.byte hq (fun i hi => absurd hi (by omega))).mono ?_
      rintro e w' ⟨r, rfl, HI, hw⟩
      have hw' := hw.symm
      subst hw'
      clear hw
      obtain rfl : r = -1 := by
        rcases HI.out with ⟨h, _⟩ | ⟨k, hk, _⟩
        · exact h
        · omega
      go_wp2_with fail
      go_ret
      exact ⟨by rw [HX.out]; rfl, 0, rfl⟩
  · clear hm hl ht
    go_enter Try.func19, Try.ntmps19
    go_wp2_with fail
    go_loopw [2] (fun iv wr => IRel n (pr n t true ld tr) t q f w iv wr) (fun iv _ => n + 1 - (intOf iv).toNat)
    case atStart => exact ⟨f, 0, rfl, by omega, rfl, rfl⟩
    case round =>
      obtain ⟨j, m, rfl, hj, rfl, HI⟩ := hrel
      by_cases h : j < n
      · have c1 := HM.out.txt j h
        have HL : Hid (idx n (pr n t true ld tr) t q j = if pr n t true ld tr j = true then idx n (pr n t true ld tr) t q (j + 2) else if t j = q then (j : Int) else idx n (pr n t true ld tr) t q (j + 1)) := idx_lt h
        go_wp2_with fail
        refine (pair_any T n c t (some ⟨g, 0, none⟩) true ld tr j _ (HM.out.drewN m) h hn).mono ?_
        rintro e w' ⟨rfl, m2, rfl⟩
        obtain ⟨b, hb⟩ : ∃ b, pr n t true ld tr j = b := ⟨_, rfl⟩
        have HB : Hid (pr n t true ld tr j = b) := hb
        rw [hb]
        clear hb
        obtain ⟨x, hx⟩ : ∃ x, t j = x := ⟨_, rfl⟩
        have HX : Hid (t j = x) := hx
        rw [hx] at c1
        clear hx
        cases b
        · by_cases hq2 : x = q
          · have HR : Hid (idx n (pr n t true ld tr) t q f = (j : Int)) := by
              show _ = _
              rw [HI.out, HL.out, if_neg (by rw [HB.out]; simp), if_pos (by rw [HX.out]; exact hq2)]
            subst hq2
            go_wp2_with fail
            go_ret
            exact ⟨by rw [HR.out]; rfl, _, rfl⟩
          · have HR : Hid (idx n (pr n t true ld tr) t q f = idx n (pr n t true ld tr) t q (j + 1)) := by
              show _ = _
              rw [HI.out, HL.out, if_neg (by rw [HB.out]; simp), if_neg (by rw [HX.out]; exact hq2)]
            have hq3 : ¬ (x : Int) = (q : Int) := by omega
            go_wp2_with fail
            go_roundw
            case rel => exact ⟨j + 1, _, by simp, by omega, rfl, HR.out⟩
            case measure => simp [intOf]; omega
        · have HR : Hid (idx n (pr n t true ld tr) t q f = idx n (pr n t true ld tr) t q (j + 2)) := by
            show _ = _
            rw [HI.out, HL.out, if_pos HB.out]
          go_wp2_with fail
          go_roundw
          case rel => exact ⟨j + 2, _, by simp, by omega, rfl, HR.out⟩
          case measure => simp [intOf]; omega
      · have HR : Hid (idx n (pr n t true ld tr) t q f = -1) := by
          show _ = _
          rw [HI.out, idx_ge (by omega)]
        go_wp2_with fail
        go_ret
        exact ⟨by rw [HR.out]; rfl, _, rfl⟩

theorem wlk_false {p : Nat → Bool} {i : Nat} (hp : ∀ k, p k = false) : ∀ (k f : Nat), f + k = i → wlk p i f = i
  | 0, f, h => by rw [wlk_ge (by omega)]; omega
  | k + 1, f, h => by
    rw [wlk_lt (by omega), show nxt p f = f + 1 by unfold nxt; rw [if_neg (by rw [hp]; simp)]]
    exact wlk_false hp k (f + 1) (by omega)

/-- Where the character that holds the byte at i begins, the characters being read from f on. -/
def cst (p : Nat → Bool) (i f : Nat) : Int := if i < wlk p i f then (i : Int) - 1 else (i : Int)
theorem cst_lt {p : Nat → Bool} {i f j : Nat} (h : wlk p i f = j) (hj : i < j) : cst p i f = (i : Int) - 1 := by unfold cst; rw [h, if_pos hj]
theorem cst_ge {p : Nat → Bool} {i f j : Nat} (h : wlk p i f = j) (hj : ¬ i < j) : cst p i f = (i : Int) := by unfold cst; rw [h, if_neg hj]

def CRel (n : Nat) (p : Nat → Bool) (i f : Nat) (w : World) (iv : Value) (wr : World) : Prop := ∃ j m : Nat, iv = .int .i64 j ∧ j ≤ i + 1 ∧ wr = w.drewN m ∧ Hid (wlk p i f = wlk p i j)

set_option maxRecDepth 100000 in
set_option maxHeartbeats 3200000 in
theorem charStart_any (T n c : Nat) (t : Nat → Nat) (cs : Option Addr) (has : Bool) (ld tr : Nat → Bool) (f i : Nat) (w : World) (hm : Mem w T n t cs has ld tr) (hf : f ≤ i) (hi : i < n) (hn : n ≤ 1048576) :
    Calls Try.prog 20 #[.pointer cs, .slice (some ⟨T, 0, none⟩) n c, .int .i64 (f : Int), .int .i64 (i : Int)] w (RPost (.int .i64 (cst (pr n t has ld tr) i f)) w) := by
  have HM : Hid (Mem w T n t cs has ld tr) := hm
  rcases hm.cs with ⟨rfl, rfl⟩ | ⟨rfl, g, rfl, hl, ht⟩
  · clear hm
    have HW : Hid (wlk (pr n t false ld tr) i f = i) := wlk_false (fun k => rfl) (i - f) f (by omega)
    go_enter Try.func20, Try.ntmps20
    go_wp2_with fail
    go_ret
    exact ⟨by rw [cst_ge HW.out (Nat.lt_irrefl _)]; rfl, 0, rfl⟩
  · clear hm hl ht
    go_enter Try.func20, Try.ntmps20
    go_wp2_with fail
    go_loopw [2] (fun iv wr => CRel n (pr n t true ld tr) i f w iv wr) (fun iv _ => i + 1 - (intOf iv).toNat)
    case atStart => exact ⟨f, 0, rfl, by omega, rfl, rfl⟩
    case round =>
      obtain ⟨j, m, rfl, hj, rfl, HI⟩ := hrel
      by_cases h : j < i
      · have HL : Hid (wlk (pr n t true ld tr) i j = wlk (pr n t true ld tr) i (nxt (pr n t true ld tr) j)) := wlk_lt h
        go_wp2_with fail
        refine (pair_any T n c t (some ⟨g, 0, none⟩) true ld tr j _ (HM.out.drewN m) (by omega) hn).mono ?_
        rintro e w' ⟨rfl, m2, rfl⟩
        obtain ⟨b, hb⟩ : ∃ b, pr n t true ld tr j = b := ⟨_, rfl⟩
        have HB : Hid (pr n t true ld tr j = b) := hb
        rw [hb]
        clear hb
        cases b
        · have HR : Hid (wlk (pr n t true ld tr) i f = wlk (pr n t true ld tr) i (j + 1)) := by
            show _ = _
            rw [HI.out, HL.out, show nxt (pr n t true ld tr) j = j + 1 by unfold nxt; rw [if_neg (by rw [HB.out]; simp)]]
          go_wp2_with fail
          go_roundw
          case rel => exact ⟨j + 1, _, by simp, by omega, rfl, HR.out⟩
          case measure => simp [intOf]; omega
        · have HR : Hid (wlk (pr n t true ld tr) i f = wlk (pr n t true ld tr) i (j + 2)) := by
            show _ = _
            rw [HI.out, HL.out, show nxt (pr n t true ld tr) j = j + 2 by unfold nxt; rw [if_pos HB.out]]
          go_wp2_with fail
          go_roundw
          case rel => exact ⟨j + 2, _, by simp, by omega, rfl, HR.out⟩
          case measure => simp [intOf]; omega
      · have HR : Hid (wlk (pr n t true ld tr) i f = j) := by
          show _ = _
          rw [HI.out, wlk_ge (by omega)]
        by_cases h2 : i < j
        · go_wp2_with fail
          go_ret
          exact ⟨by rw [cst_lt HR.out h2]; rfl, _, rfl⟩
        · go_wp2_with fail
          go_ret
          exact ⟨by rw [cst_ge HR.out h2]; rfl, _, rfl⟩

end Go.Proofs.Qxb6609257a
