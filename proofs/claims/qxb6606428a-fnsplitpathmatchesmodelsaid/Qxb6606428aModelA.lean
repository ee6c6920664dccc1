/-
  hexVal, unescModel.
-/
import Derived.Test.Qxb6606428aUnesc
import Derived.Deep.RegionLaw
import Derived.Deep.OwnRows
import Derived.IntWalk
namespace Go.Proofs.Qxb6606428a
open Go.RowKit
set_option linter.unusedVariables false
set_option linter.unusedSimpArgs false

/-- append on an own slice as one step of a region that draws. -/
theorem step_append_grew {P : Program} {ops : Array Oper} {o : Oper} {a : Act} {w : World} {K : Act → World → Prop} {Q : Exit → Act → World → Prop} {E : Prop}
    (hg : o.guard = none) (s x : Operand) (t : TypeId) (hop : o.op = Op.call { callee := Callee.builtin Builtin.append, args := #[s, x], argTypes := #[t, t] })
    (base : Nat) (e : TypeId) (i : TypeInfo) (z : Value) (bytes : Nat) (ht : P.underlying t = some (.slice e)) (hi : P.info? e = some i) (hz : i.zero = some z)
    (hsize : i.size = 1) (hby : i.bytes = bytes) (hzs : z.cells.size = 1)
    (v : Value) (n : Nat) (xs : List Value) (hs : a.eval s = v)
    (ad : Addr) (m c : Nat) (news : List Value) (hx : a.eval x = .slice (some ad) m c) (hl : news.length = m * 1) (hown : w.ownsRow base e 1 v n xs) (hnews : ∀ j u, news[j]? = some u → w.cell? (ad.add j) = some u) (h1 : ∀ u ∈ news, u.oneCell' = true)
    (h63 : n + m ≤ maxLen) (hbytes : (n + m) * bytes ≤ 140737488355328) (hbase : base ≤ w.heap.size)
    (hK : ∀ v' w', Grew w w' base e v n v' (n + m) (xs ++ news) → K (a.put o.dst v') w') :
    if Region.wanted o (yielded ops a.tmps) = true then Oper.wp P o a w K Q else E := by
  have hw : Region.wanted o (yielded ops a.tmps) = true := by simp [Region.wanted, hg]
  rw [if_pos hw]
  obtain ⟨v', w', hr, h2⟩ := run_append_grew (P := P) w base t o.type e i z bytes ht hi hz hsize hby hzs v n xs hown ad m c news hl hnews h1 h63 hbytes hbase
  unfold Oper.wp
  simp [execOp, hop, resolve, invoke, builtin, hs, hx, hr, Result.andThen]
  exact hK v' w' h2

def hv (c : UInt8) : Int := if hexok c = true then (hexv c : Int) else -1

set_option maxHeartbeats 800000 in
theorem hexVal_any (c : UInt8) (w : World) : Calls Try.prog 20 #[.int .u8 (c.toNat : Int)] w fun e w' => e = .returned (.int .i64 (hv c)) ∧ w' = w := by
  have hlt := c.toNat_lt
  by_cases h : hexok c = true
  · have h' := h
    simp only [hexok, Bool.or_eq_true, Bool.and_eq_true, decide_eq_true_eq] at h
    have hv1 : hv c = (hexv c : Int) := by unfold hv; rw [if_pos h']
    clear h'
    go_enter Try.func20, Try.ntmps20
    go_wp2
    all_goals
      go_ret
      refine ⟨ret_int ?_, rfl⟩
      try rw [hv1]
      unfold hexv
      split <;> (try split) <;> omega
  · have h' : ¬ hexok c = true := h
    have h : hexok c = false := by simpa using h
    simp only [hexok, Bool.or_eq_false_iff, Bool.and_eq_false_iff, decide_eq_false_iff_not] at h
    have hv1 : hv c = -1 := by unfold hv; rw [if_neg h']
    clear h'
    go_enter Try.func20, Try.ntmps20
    go_wp2
    all_goals
      go_ret
      exact ⟨ret_int (by first | rfl | exact hv1.symm), rfl⟩

theorem hexVal_ok (c : UInt8) (w : World) (h : hexok c = true) : Calls Try.prog 20 #[.int .u8 (c.toNat : Int)] w fun e w' => e = .returned (.int .i64 (hexv c : Int)) ∧ w' = w := by
  have := hexVal_any c w
  rwa [show hv c = (hexv c : Int) by unfold hv; rw [if_pos h]] at this
theorem hexVal_no (c : UInt8) (w : World) (h : hexok c = false) : Calls Try.prog 20 #[.int .u8 (c.toNat : Int)] w fun e w' => e = .returned (.int .i64 (-1)) ∧ w' = w := by
  have := hexVal_any c w
  rwa [show hv c = -1 by unfold hv; rw [h]; rfl] at this

/-! ### one step of the escapes, by the place -/
section
variable {S : List UInt8} {i : Nat} {c a b : UInt8}
theorem drop_at (h : S[i]? = some c) : S.drop i = c :: S.drop (i + 1) := by
  obtain ⟨hk, e⟩ := List.getElem?_eq_some_iff.1 h
  rw [List.drop_eq_getElem_cons hk, e]
theorem un_plain (h : S[i]? = some c) (hc : c ≠ 37) : unesc (S.drop i) = (unesc (S.drop (i + 1))).map (c :: ·) := by rw [drop_at h, unesc_ne hc]
theorem un_short (h : S[i]? = some 37) (hs : S.length ≤ i + 2) : unesc (S.drop i) = none := by rw [drop_at h, unesc_short (by simp; omega)]
theorem un_pct (h : S[i]? = some 37) (ha : S[i + 1]? = some a) (hb : S[i + 2]? = some b) : unesc (S.drop i) = if (hexok a && hexok b) = true then (unesc (S.drop (i + 3))).map (hexb a b :: ·) else none := by
  rw [drop_at h, drop_at ha, drop_at hb, unesc_pct]
end

def UMPost (S : List UInt8) (w : World) (e : Ending) (w' : World) : Prop :=
  ∃ v, e = .returned (.tuple #[v, .bool (unesc S).isSome]) ∧ Below w.heap.size w w' ∧ ∀ r, unesc S = some r → ∃ g c, v = .slice (some ⟨g, 0, none⟩) r.length c ∧ w'.ownsRow w.heap.size 5 1 (.slice (some ⟨g, 0, none⟩) r.length c) r.length (bcells r)

def U1Rel (s : ByteArray) (w : World) (iv : Value) (wr : World) : Prop := ∃ i : Nat, iv = .int .i64 i ∧ i ≤ s.size ∧ wr = w ∧ Hid ((unesc s.data.toList).isSome = (unesc (s.data.toList.drop i)).isSome)
def U2Rel (s : ByteArray) (w : World) (ov iv : Value) (wr : World) : Prop := ∃ (i : Nat) (acc : List UInt8) (g c : Nat), iv = .int .i64 i ∧ i ≤ s.size ∧ ov = .slice (some ⟨g, 0, none⟩) acc.length c ∧ acc.length ≤ i ∧
  Hid (wr.ownsRow w.heap.size 5 1 (.slice (some ⟨g, 0, none⟩) acc.length c) acc.length (bcells acc) ∧ Below w.heap.size w wr ∧ unesc s.data.toList = (unesc (s.data.toList.drop i)).map (acc ++ ·))

theorem un_bad {s : ByteArray} {w : World} {v : Value} (h : unesc s.data.toList = none) : UMPost s.data.toList w (.returned (.tuple #[v, .bool false])) w := by
  refine ⟨_, un_ret (by rw [h]; rfl), Below.refl _ _, fun r hr => ?_⟩
  rw [h] at hr
  cases hr

set_option maxRecDepth 100000 in
set_option maxHeartbeats 3200000 in
theorem unescModel_any (s : ByteArray) (w : World) (hs : s.size ≤ 1048576) : Calls Try.prog 16 #[.string s] w (UMPost s.data.toList w) := by
  obtain ⟨i0, hi0, hz0, hz1, hz2⟩ := info_parts Try.info5
  go_enter Try.func16, Try.ntmps16
  go_wp2_with fail
  go_loopw [4] (fun iv wr => U1Rel s w iv wr) (fun iv _ => s.size - (intOf iv).toNat)
  case atStart => exact ⟨0, rfl, Nat.zero_le _, rfl, rfl⟩
  case round =>
    obtain ⟨i, rfl, hi, hwr, HI⟩ := hrel
    have hwr' := hwr.symm
    subst hwr'
    clear hwr
    by_cases h : i < s.size
    · have HA : Hid (s.data.toList[i]? = some s[i]) := ba_get s i h
      by_cases hp : (s[i].toNat : Int) = 37
      · have hp' : s[i] = 37 := by
          have : s[i].toNat = 37 := by omega
          exact UInt8.toNat_inj.1 this
        have HP : Hid (s.data.toList[i]? = some 37) := by rw [← hp']; exact HA.out
        clear hp'
        by_cases h2 : i + 2 < s.size
        · have HX : Hid (s.data.toList[i + 1]? = some s[i + 1] ∧ s.data.toList[i + 2]? = some s[i + 2]) := ⟨ba_get s _ _, ba_get s _ _⟩
          by_cases hx : hexok s[i + 1] = true
          · by_cases hy : hexok s[i + 2] = true
            · have HU : Hid ((unesc s.data.toList).isSome = (unesc (s.data.toList.drop (i + 3))).isSome) := by
                show _ = _
                rw [HI.out, un_pct HP.out HX.out.1 HX.out.2, if_pos (by rw [hx, hy]; rfl), Option.isSome_map]
              have HXY : Hid (hexok s[i + 1] = true ∧ hexok s[i + 2] = true) := ⟨hx, hy⟩
              clear hx hy
              go_wp2_with fail
              refine (hexVal_ok s[i + 1] _ HXY.out.1).mono ?_
              rintro e w' ⟨rfl, rfl⟩
              go_wp2_with fail
              refine (hexVal_ok s[i + 2] _ HXY.out.2).mono ?_
              rintro e w' ⟨rfl, rfl⟩
              go_wp2_with fail
              go_roundw
              case rel => exact ⟨i + 3, by simp; omega, by omega, rfl, HU⟩
              case measure => simp [intOf]; omega
            · have hy' : hexok s[i + 2] = false := by simpa using hy
              have HU : Hid (unesc s.data.toList = none) := by
                have := HI.out
                rw [un_pct HP.out HX.out.1 HX.out.2, if_neg (by rw [hx, hy']; decide)] at this
                show _ = _
                simpa using this
              have HXY : Hid (hexok s[i + 1] = true ∧ hexok s[i + 2] = false) := ⟨hx, hy'⟩
              clear hx hy hy'
              go_wp2_with fail
              refine (hexVal_ok s[i + 1] _ HXY.out.1).mono ?_
              rintro e w' ⟨rfl, rfl⟩
              go_wp2_with fail
              refine (hexVal_no s[i + 2] _ HXY.out.2).mono ?_
              rintro e w' ⟨rfl, rfl⟩
              go_wp2_with fail
              go_ret2
              exact un_bad HU.out
          · have hx' : hexok s[i + 1] = false := by simpa using hx
            have HU : Hid (unesc s.data.toList = none) := by
              have := HI.out
              rw [un_pct HP.out HX.out.1 HX.out.2, if_neg (by rw [hx']; simp)] at this
              show _ = _
              simpa using this
            have HXY : Hid (hexok s[i + 1] = false) := hx'
            clear hx hx'
            go_wp2_with fail
            refine (hexVal_no s[i + 1] _ HXY.out).mono ?_
            rintro e w' ⟨rfl, rfl⟩
            go_wp2_with fail
            go_ret2
            exact un_bad HU.out
        · have HU : Hid (unesc s.data.toList = none) := by
            have := HI.out
            rw [un_short HP.out (by simp; omega)] at this
            show _ = _
            simpa using this
          go_wp2_with fail
          go_ret2
          exact un_bad HU.out
      · have HU : Hid ((unesc s.data.toList).isSome = (unesc (s.data.toList.drop (i + 1))).isSome) := by
          show _ = _
          rw [HI.out, un_plain HA.out (fun e => hp (by rw [e]; rfl)), Option.isSome_map]
        go_wp2_with fail
        go_roundw
        case rel => exact ⟨i + 1, by simp, by omega, rfl, HU⟩
        case measure => simp [intOf]; omega
    · have HOK : Hid ((unesc s.data.toList).isSome = true) := by
        show _ = _
        rw [HI.out, List.drop_of_length_le (by simp; omega)]; rfl
      clear HI
      obtain ⟨W, hmk, ho, hgr⟩ := run_make_own (P := Try.prog) w w.heap.size 24 5 i0 (.int .u8 0) 1 Try.underlying24 hi0 hz0 hz1 .i64 .i64 s.size (by rw [hz2]; omega) (by unfold maxLen; omega) (Nat.le_refl _)
      have HO : Hid (W.ownsRow w.heap.size 5 1 (.slice (some ⟨w.heap.size, 0, none⟩) 0 s.size) 0 [] ∧ Below w.heap.size w W) := ⟨ho, (Below.refl _ _).grown hgr (Nat.le_refl _) (fun _ h => by cases h)⟩
      clear ho hgr
      go_wp2_with fail
      clear hmk h hi
      go_loopw [5, 6] (fun ov iv wx => U2Rel s w ov iv wx) (fun _ iv _ => s.size - (intOf iv).toNat)
      case atStart => exact ⟨0, [], _, _, rfl, Nat.zero_le _, rfl, Nat.le_refl _, HO.out.1, HO.out.2, by simp⟩
      case round =>
        rename_i hrel2
        obtain ⟨i, acc, g, c, rfl, hi, rfl, hacc, HR⟩ := hrel
        obtain ⟨n, hn⟩ : ∃ n, acc.length = n := ⟨_, rfl⟩
        have HN : Hid (acc.length = n) := hn
        rw [hn] at HR hacc ⊢
        clear hn
        have hbz : w.heap.size ≤ wr.heap.size := HR.out.2.1.size
        by_cases h : i < s.size
        · have HA : Hid (s.data.toList[i]? = some s[i]) := ba_get s i h
          have HSM : Hid ((unesc (s.data.toList.drop i)).isSome = true) := by
            have := HOK.out
            rw [HR.out.2.2, Option.isSome_map] at this
            exact this
          by_cases hp : (s[i].toNat : Int) = 37
          · have HP : Hid (s.data.toList[i]? = some 37) := by
              have : s[i] = 37 := UInt8.toNat_inj.1 (by show s[i].toNat = 37; omega)
              rw [← this]; exact HA.out
            have h2 : i + 2 < s.size := by
              by_cases h2 : i + 2 < s.size
              · exact h2
              · have := HSM.out
                rw [un_short HP.out (by simp; omega)] at this
                cases this
            have HX : Hid (s.data.toList[i + 1]? = some s[i + 1] ∧ s.data.toList[i + 2]? = some s[i + 2]) := ⟨ba_get s _ _, ba_get s _ _⟩
            obtain ⟨a, ha⟩ : ∃ a, s[i + 1] = a := ⟨_, rfl⟩
            obtain ⟨b, hb⟩ : ∃ b, s[i + 2] = b := ⟨_, rfl⟩
            rw [ha, hb] at HX
            have HHX : Hid (hexok a = true ∧ hexok b = true) := by
              have := HSM.out
              rw [un_pct HP.out HX.out.1 HX.out.2] at this
              by_cases hh : (hexok a && hexok b) = true
              · show _ ∧ _; simpa using hh
              · rw [if_neg hh] at this; cases this
            have hxy := hex_or a b HHX.out.1 HHX.out.2
            have HCA := fun w => hexVal_ok a w HHX.out.1
            have HCB := fun w => hexVal_ok b w HHX.out.2
            obtain ⟨x, hx⟩ : ∃ x, hexv a = x := ⟨_, rfl⟩
            obtain ⟨y, hy⟩ : ∃ y, hexv b = y := ⟨_, rfl⟩
            have HZ : Hid (hexb a b = UInt8.ofNat (x * 16 + y)) := by show _ = _; unfold hexb; rw [hx, hy]
            rw [hx, hy] at hxy
            rw [hx] at HCA
            rw [hy] at HCB
            have HCC : Hid ((∀ w, Calls Try.prog 20 #[.int .u8 (a.toNat : Int)] w fun e w' => e = .returned (.int .i64 (x : Int)) ∧ w' = w) ∧ (∀ w, Calls Try.prog 20 #[.int .u8 (b.toNat : Int)] w fun e w' => e = .returned (.int .i64 (y : Int)) ∧ w' = w)) := ⟨HCA, HCB⟩
            clear HCA HCB hx hy HA
            have hx16 := hxy.1
            have hy16 := hxy.2
            clear hxy
            have q1 : IntKind.i64.wrap ((i : Int) + 1) = (i : Int) + 1 := IntWalk.i64_in _ (by omega)
            have q2 : IntKind.i64.wrap ((i : Int) + 2) = (i : Int) + 2 := IntWalk.i64_in _ (by omega)
            have q3 : (0 : Int) ≤ (i : Int) + 1 := by omega
            have q4 : (0 : Int) ≤ (i : Int) + 2 := by omega
            have q5 : (i : Int) + 1 < (s.size : Int) := by omega
            have q6 : (i : Int) + 2 < (s.size : Int) := by omega
            have q7 : ((i : Int) + 1).toNat = i + 1 := by omega
            have q8 : ((i : Int) + 2).toNat = i + 2 := by omega
            have q9 : IntKind.i64.wrap ((x : Int) * 16) = (x : Int) * 16 := IntWalk.i64_in _ (by omega)
            have q10 : IntKind.i64.wrap ((x : Int) * 16 + (y : Int)) = (x : Int) * 16 + (y : Int) := IntWalk.i64_in _ (by omega)
            have q11 : IntKind.u8.wrap ((x : Int) * 16 + (y : Int)) = (x : Int) * 16 + (y : Int) := IntWalk.u8_in _ (by omega)
            go_wp2_with fail
            go_region_law (first
              | (refine step_append_grew rfl (.tmp 53) (.tmp 67) 24 rfl w.heap.size 5 i0 (.int .u8 0) 1 Try.underlying24 hi0 hz0 hz1 hz2 rfl (.slice (some ⟨g, 0, none⟩) n c) n (bcells acc) ?_ ⟨wr.heap.size, 0, none⟩ 1 1 [.int .u8 ((x : Int) * 16 + (y : Int))] ?_ rfl ?_ ?_ one_cell ?_ ?_ ?_ ?_
                 · simp [Act.eval, Act.put]
                 · simp [Act.eval, Act.put]
                 · first | exact own_below HR.out.1 ((bel_alloc _ _).drew) | exact own_below HR.out.1 (((Below.refl _ _).drew).alloc (Nat.le_refl _) _)
                 · exact cell_one_at rfl
                 · unfold maxLen; omega
                 · omega
                 · simp; omega
                 intro v' w1 hg1)
              | (go_simp; go_at_call_of 20 (a.toNat : Int); refine (HCC.out.1 _).mono ?_; rintro e w' ⟨rfl, rfl⟩; go_simp)
              | (go_simp; go_at_call_of 20 (b.toNat : Int); refine (HCC.out.2 _).mono ?_; rintro e w' ⟨rfl, rfl⟩; go_simp))
            all_goals
              have hz : (x : Int) * 16 + (y : Int) = ((hexb a b).toNat : Int) := by
                rw [HZ.out]; simp; omega
              rw [hz] at hg1
              obtain ⟨a5, c5, rfl, hsh⟩ := own_shape hg1.own
              rcases hsh with ⟨_, h0, _⟩ | ⟨g5, rfl, _⟩
              · omega
              have HW : Hid (w1.ownsRow w.heap.size 5 1 (.slice (some ⟨g5, 0, none⟩) (n + 1) c5) (n + 1) (bcells acc ++ [.int .u8 ((hexb a b).toNat : Int)]) ∧ Below w.heap.size w w1) := ⟨hg1.own, hg1.below ((HR.out.2.1.alloc hbz _).drew) (by simp; omega)⟩
              have HU : Hid (unesc s.data.toList = (unesc (s.data.toList.drop (i + 3))).map (acc ++ [hexb a b] ++ ·)) := by
                show _ = _
                rw [HR.out.2.2, un_pct HP.out HX.out.1 HX.out.2, if_pos (by rw [HHX.out.1, HHX.out.2]; rfl), Option.map_map]
                congr 1
                funext q
                simp
              clear hg1 hz
              go_wp2_with fail
              go_roundw
              case rel =>
                refine ⟨i + 3, acc ++ [hexb a b], g5, c5, by simp; omega, by omega, ?_, by simp; have := HN.out; omega, ?_, HW.out.2, HU.out⟩
                · rw [List.length_append, HN.out]; rfl
                · rw [List.length_append, HN.out, bcells_app]; exact HW.out.1
              case measure => simp [intOf]; omega
          · have hnp : s[i] ≠ 37 := fun e => hp (by rw [e]; rfl)
            have HU : Hid (unesc s.data.toList = (unesc (s.data.toList.drop (i + 1))).map (acc ++ [s[i]] ++ ·)) := by
              show _ = _
              rw [HR.out.2.2, un_plain HA.out hnp, Option.map_map]
              congr 1
              funext q
              simp
            clear hnp
            go_wp2_with (at_builtin; refine wpList_append_grew rfl (.tmp 71) (.tmp 75) 24 rfl w.heap.size 5 i0 (.int .u8 0) 1 Try.underlying24 hi0 hz0 hz1 hz2 rfl _ n _ rfl (own_below HR.out.1 (bel_alloc _ _)) ⟨wr.heap.size, 0, none⟩ 1 1 [.int .u8 (s[i].toNat : Int)] rfl rfl (cell_one_at rfl) one_cell (by unfold maxLen; omega) (by omega) (by simp; omega) ?_)
            intro v' w1 hg1
            obtain ⟨a5, c5, rfl, hsh⟩ := own_shape hg1.own
            rcases hsh with ⟨_, h0, _⟩ | ⟨g5, rfl, _⟩
            · omega
            have HW : Hid (w1.ownsRow w.heap.size 5 1 (.slice (some ⟨g5, 0, none⟩) (n + 1) c5) (n + 1) (bcells acc ++ [.int .u8 (s[i].toNat : Int)]) ∧ Below w.heap.size w w1) := ⟨hg1.own, hg1.below (HR.out.2.1.alloc hbz _) (by simp; omega)⟩
            clear hg1
            go_wp2_with fail
            go_roundw
            case rel =>
              refine ⟨i + 1, acc ++ [s[i]], g5, c5, by simp, by omega, ?_, by simp; have := HN.out; omega, ?_, HW.out.2, HU.out⟩
              · rw [List.length_append, HN.out]; rfl
              · rw [List.length_append, HN.out, bcells_app]; exact HW.out.1
            case measure => simp [intOf]; omega
        · have HU : Hid (unesc s.data.toList = some acc) := by
            show _ = _
            rw [HR.out.2.2, List.drop_of_length_le (by simp; omega)]
            simp [unesc]
          go_wp2_with fail
          go_ret2
          refine ⟨_, un_ret (by rw [HU.out]; rfl), HR.out.2.1, fun r hr => ?_⟩
          rw [HU.out] at hr
          simp only [Option.some.injEq] at hr
          subst hr
          exact ⟨g, c, by rw [HN.out]; rfl, by rw [HN.out]; exact HR.out.1⟩

end Go.Proofs.Qxb6606428a
