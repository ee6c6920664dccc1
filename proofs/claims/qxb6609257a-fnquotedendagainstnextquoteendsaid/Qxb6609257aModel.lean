/-
  The model: zzQuoteEndModel.
-/
import Derived.Test.Qxb6609257aPass
import Derived.Deep.CutRange
namespace Go.Proofs.Qxb6609257a
open Go.RowKit
set_option linter.unusedVariables false
set_option linter.unusedSimpArgs false

/-- A table of bools as a value's cells. -/
def Tab (F : Array Value) (ld : Nat → Bool) : Prop := F.size = 256 ∧ ∀ k, k < 256 → F[k]? = some (.bool (ld k))

theorem tab_cell {w : World} {g : Nat} {F : Array Value} {ld : Nat → Bool} (h : Box w g F) (ht : Tab F ld) {k : Nat} (hk : k < 256) : w.cell? ⟨g, k, none⟩ = some (.bool (ld k)) := by
  unfold Box at h
  simp only [World.cell?, h]
  exact ht.2 k hk

def MRel (bs dbl : Bool) (n : Nat) (p : Nat → Bool) (t : Nat → Nat) (q i : Nat) (W : World) (jv : Value) (wr : World) : Prop := ∃ j : Nat, jv = .int .i64 j ∧ j ≤ n + 1 ∧ wr = W ∧ Hid (ans bs dbl n p t q i = ans bs dbl n p t q j)

set_option maxRecDepth 100000 in
set_option maxHeartbeats 6400000 in
theorem model_any (T n c : Nat) (t : Nat → Nat) (has : Bool) (ld tr : Nat → Bool) (F S : Array Value) (i : Nat) (bs dbl : Bool) (w : World) (htx : ∀ k, k < n → w.cell? ⟨T, k, none⟩ = some (.int .u8 (t k : Int))) (hby : ∀ k, t k < 256) (hF : Tab F ld) (hS : Tab S tr) (hi : i < n) (hn : n ≤ 1048576) :
    Calls Try.prog 10 #[.slice (some ⟨T, 0, none⟩) n c, .int .i64 (i : Int), .bool bs, .bool has, .agg F, .agg S, .bool dbl] w (BPost (ans bs dbl n (pr n t has ld tr) t (t i) (i + 1)) w) := by
  obtain ⟨W, hW⟩ : ∃ W, (w.alloc (Obj.cells F 23)).alloc (Obj.cells S 23) = W := ⟨_, rfl⟩
  have HW : Hid (Below w.heap.size w W ∧ (∀ k, k < n → W.cell? ⟨T, k, none⟩ = some (.int .u8 (t k : Int))) ∧ (∀ k, k < 256 → W.cell? ⟨w.heap.size, k, none⟩ = some (.bool (ld k))) ∧ (∀ k, k < 256 → W.cell? ⟨w.heap.size + 1, k, none⟩ = some (.bool (tr k)))) := by
    have hb : Below w.heap.size w W := by rw [← hW]; exact ((Below.refl _ _).alloc (Nat.le_refl _) _).alloc (by simp) _
    refine ⟨hb, fun k hk => cell_below (htx k hk) hb, fun k hk => ?_, fun k hk => ?_⟩
    · rw [← hW]; exact tab_cell ((box_new w F).alloc _) hF hk
    · rw [← hW]
      have := box_new (w.alloc (Obj.cells F 23)) S
      rw [show (w.alloc (Obj.cells F 23)).heap.size = w.heap.size + 1 by simp] at this
      exact tab_cell this hS hk
  clear htx hF hS
  have c0 := HW.out.2.1 i hi
  obtain ⟨q, hq⟩ : ∃ q, t i = q := ⟨_, rfl⟩
  have hqb := hby i
  rw [hq] at c0 hqb ⊢
  have HBY : Hid (∀ k, t k < 256) := hby
  clear hq hby
  go_enter Try.func10, Try.ntmps10
  go_wp2_with fail
  clear hW
  go_loopw [17] (fun jv wr => MRel bs dbl n (pr n t has ld tr) t q (i + 1) W jv wr) (fun jv _ => n + 1 - (intOf jv).toNat)
  case atStart => exact ⟨i + 1, by simp, by omega, rfl, rfl⟩
  case round =>
    obtain ⟨j, rfl, hj, hwr, HI⟩ := hrel
    have hwr' := hwr.symm
    subst hwr'
    clear hwr
    by_cases h : j < n
    · have c1 := HW.out.2.1 j h
      have bx := HBY.out j
      have c3 := HW.out.2.2.1 (t j) bx
      obtain ⟨x, hx⟩ : ∃ x, t j = x := ⟨_, rfl⟩
      have HX : Hid (t j = x) := hx
      rw [hx] at c1 bx c3
      clear hx
      have i2 : (x : Int) < 256 := by omega
      have i3 : (0 : Int) ≤ (x : Int) := by omega
      by_cases h6 : j + 1 < n
      · have c2 := HW.out.2.1 (j + 1) h6
        have by_ := HBY.out (j + 1)
        have c4 := HW.out.2.2.2 (t (j + 1)) by_
        obtain ⟨y, hy⟩ : ∃ y, t (j + 1) = y := ⟨_, rfl⟩
        have HY : Hid (t (j + 1) = y) := hy
        rw [hy] at c2 by_ c4
        clear hy
        have j2 : (y : Int) < 256 := by omega
        have j3 : (0 : Int) ≤ (y : Int) := by omega
        cases has
        · have HPR : Hid ((pr n t false ld tr) j = false) := by
            show _ = _
            simp [pr]
          have HLA : Hid (ans bs dbl n (pr n t false ld tr) t q j = stepA bs dbl n (pr n t false ld tr) t q j (ans bs dbl n (pr n t false ld tr) t q (j + 1)) (ans bs dbl n (pr n t false ld tr) t q (j + 2))) := ans_lt h
          by_cases hxq : x = q
          · have e1 : ((x : Int) == (q : Int)) = true := beq_iff_eq.2 (by omega)
            have HXQ : Hid (x = q) := hxq
            clear hxq
            cases bs
            · cases dbl
              · have HR : Hid (ans false false n (pr n t false ld tr) t q (i + 1) = (j + 1, 0)) := by
                  show _ = _
                  rw [HI.out, HLA.out]
                  simp [stepA, HX.out, HPR.out, HXQ.out]
                go_wp2_with fail
                go_ret2
                exact ⟨by rw [HR.out]; rfl, HW.out.1⟩
              · by_cases h7 : y = q
                · have HR : Hid (ans false true n (pr n t false ld tr) t q (i + 1) = ans false true n (pr n t false ld tr) t q (j + 2)) := by
                    show _ = _
                    rw [HI.out, HLA.out]
                    simp [stepA, HX.out, HPR.out, HXQ.out, h6, HY.out, h7]
                  have h8 : ((y : Int) == (q : Int)) = true := beq_iff_eq.2 (by omega)
                  clear h7
                  go_wp2_with fail
                  go_roundw
                  case rel => exact ⟨j + 2, by simp, by omega, rfl, HR.out⟩
                  case measure => simp [intOf]; omega
                · have HR : Hid (ans false true n (pr n t false ld tr) t q (i + 1) = (j + 1, 0)) := by
                    show _ = _
                    rw [HI.out, HLA.out]
                    simp [stepA, HX.out, HPR.out, HXQ.out, h6, HY.out, h7]
                  have h8 : ((y : Int) == (q : Int)) = false := beq_eq_false_iff_ne.2 (by omega)
                  go_wp2_with fail
                  go_ret2
                  exact ⟨by rw [HR.out]; rfl, HW.out.1⟩
            · cases dbl
              · have HR : Hid (ans true false n (pr n t false ld tr) t q (i + 1) = (j + 1, 0)) := by
                  show _ = _
                  rw [HI.out, HLA.out]
                  simp [stepA, HX.out, HPR.out, HXQ.out]
                go_wp2_with fail
                go_ret2
                exact ⟨by rw [HR.out]; rfl, HW.out.1⟩
              · by_cases h7 : y = q
                · have HR : Hid (ans true true n (pr n t false ld tr) t q (i + 1) = ans true true n (pr n t false ld tr) t q (j + 2)) := by
                    show _ = _
                    rw [HI.out, HLA.out]
                    simp [stepA, HX.out, HPR.out, HXQ.out, h6, HY.out, h7]
                  have h8 : ((y : Int) == (q : Int)) = true := beq_iff_eq.2 (by omega)
                  clear h7
                  go_wp2_with fail
                  go_roundw
                  case rel => exact ⟨j + 2, by simp, by omega, rfl, HR.out⟩
                  case measure => simp [intOf]; omega
                · have HR : Hid (ans true true n (pr n t false ld tr) t q (i + 1) = (j + 1, 0)) := by
                    show _ = _
                    rw [HI.out, HLA.out]
                    simp [stepA, HX.out, HPR.out, HXQ.out, h6, HY.out, h7]
                  have h8 : ((y : Int) == (q : Int)) = false := beq_eq_false_iff_ne.2 (by omega)
                  go_wp2_with fail
                  go_ret2
                  exact ⟨by rw [HR.out]; rfl, HW.out.1⟩
          · have e1 : ((x : Int) == (q : Int)) = false := beq_eq_false_iff_ne.2 (by omega)
            cases bs
            · have HR : Hid (ans false dbl n (pr n t false ld tr) t q (i + 1) = ans false dbl n (pr n t false ld tr) t q (j + 1)) := by
                show _ = _
                rw [HI.out, HLA.out]
                simp [stepA, HX.out, HPR.out, hxq]
              go_wp2_with fail
              go_roundw
              case rel => exact ⟨j + 1, by simp, by omega, rfl, HR.out⟩
              case measure => simp [intOf]; omega
            · by_cases hx9 : x = 92
              · have HR : Hid (ans true dbl n (pr n t false ld tr) t q (i + 1) = ans true dbl n (pr n t false ld tr) t q (j + 2)) := by
                  show _ = _
                  rw [HI.out, HLA.out]
                  rw [stepA, if_pos rfl, HX.out, if_neg hxq, if_pos (Or.inl hx9)]
                have e2 : ((x : Int) == 92) = true := beq_iff_eq.2 (by omega)
                clear hx9
                go_wp2_with fail
                go_roundw
                case rel => exact ⟨j + 2, by simp, by omega, rfl, HR.out⟩
                case measure => simp [intOf]; omega
              · have HR : Hid (ans true dbl n (pr n t false ld tr) t q (i + 1) = ans true dbl n (pr n t false ld tr) t q (j + 1)) := by
                  show _ = _
                  rw [HI.out, HLA.out]
                  simp [stepA, HX.out, HPR.out, hxq, hx9]
                have e2 : ((x : Int) == 92) = false := beq_eq_false_iff_ne.2 (by omega)
                go_wp2_with fail
                go_roundw
                case rel => exact ⟨j + 1, by simp, by omega, rfl, HR.out⟩
                case measure => simp [intOf]; omega
        · obtain ⟨b1, hb1⟩ : ∃ b1, ld x = b1 := ⟨_, rfl⟩
          rw [hb1] at c3
          cases b1
          · have HPR : Hid ((pr n t true ld tr) j = false) := by
              show _ = _
              simp [pr, HX.out, hb1]
            have HLA : Hid (ans bs dbl n (pr n t true ld tr) t q j = stepA bs dbl n (pr n t true ld tr) t q j (ans bs dbl n (pr n t true ld tr) t q (j + 1)) (ans bs dbl n (pr n t true ld tr) t q (j + 2))) := ans_lt h
            clear hb1
            by_cases hxq : x = q
            · have e1 : ((x : Int) == (q : Int)) = true := beq_iff_eq.2 (by omega)
              have HXQ : Hid (x = q) := hxq
              clear hxq
              cases bs
              · cases dbl
                · have HR : Hid (ans false false n (pr n t true ld tr) t q (i + 1) = (j + 1, 0)) := by
                    show _ = _
                    rw [HI.out, HLA.out]
                    simp [stepA, HX.out, HPR.out, HXQ.out]
                  go_wp2_with fail
                  go_ret2
                  exact ⟨by rw [HR.out]; rfl, HW.out.1⟩
                · by_cases h7 : y = q
                  · have HR : Hid (ans false true n (pr n t true ld tr) t q (i + 1) = ans false true n (pr n t true ld tr) t q (j + 2)) := by
                      show _ = _
                      rw [HI.out, HLA.out]
                      simp [stepA, HX.out, HPR.out, HXQ.out, h6, HY.out, h7]
                    have h8 : ((y : Int) == (q : Int)) = true := beq_iff_eq.2 (by omega)
                    clear h7
                    go_wp2_with fail
                    go_roundw
                    case rel => exact ⟨j + 2, by simp, by omega, rfl, HR.out⟩
                    case measure => simp [intOf]; omega
                  · have HR : Hid (ans false true n (pr n t true ld tr) t q (i + 1) = (j + 1, 0)) := by
                      show _ = _
                      rw [HI.out, HLA.out]
                      simp [stepA, HX.out, HPR.out, HXQ.out, h6, HY.out, h7]
                    have h8 : ((y : Int) == (q : Int)) = false := beq_eq_false_iff_ne.2 (by omega)
                    go_wp2_with fail
                    go_ret2
                    exact ⟨by rw [HR.out]; rfl, HW.out.1⟩
              · cases dbl
                · have HR : Hid (ans true false n (pr n t true ld tr) t q (i + 1) = (j + 1, 0)) := by
                    show _ = _
                    rw [HI.out, HLA.out]
                    simp [stepA, HX.out, HPR.out, HXQ.out]
                  go_wp2_with fail
                  go_ret2
                  exact ⟨by rw [HR.out]; rfl, HW.out.1⟩
                · by_cases h7 : y = q
                  · have HR : Hid (ans true true n (pr n t true ld tr) t q (i + 1) = ans true true n (pr n t true ld tr) t q (j + 2)) := by
                      show _ = _
                      rw [HI.out, HLA.out]
                      simp [stepA, HX.out, HPR.out, HXQ.out, h6, HY.out, h7]
                    have h8 : ((y : Int) == (q : Int)) = true := beq_iff_eq.2 (by omega)
                    clear h7
                    go_wp2_with fail
                    go_roundw
                    case rel => exact ⟨j + 2, by simp, by omega, rfl, HR.out⟩
                    case measure => simp [intOf]; omega
                  · have HR : Hid (ans true true n (pr n t true ld tr) t q (i + 1) = (j + 1, 0)) := by
                      show _ = _
                      rw [HI.out, HLA.out]
                      simp [stepA, HX.out, HPR.out, HXQ.out, h6, HY.out, h7]
                    have h8 : ((y : Int) == (q : Int)) = false := beq_eq_false_iff_ne.2 (by omega)
                    go_wp2_with fail
                    go_ret2
                    exact ⟨by rw [HR.out]; rfl, HW.out.1⟩
            · have e1 : ((x : Int) == (q : Int)) = false := beq_eq_false_iff_ne.2 (by omega)
              cases bs
              · have HR : Hid (ans false dbl n (pr n t true ld tr) t q (i + 1) = ans false dbl n (pr n t true ld tr) t q (j + 1)) := by
                  show _ = _
                  rw [HI.out, HLA.out]
                  simp [stepA, HX.out, HPR.out, hxq]
                go_wp2_with fail
                go_roundw
                case rel => exact ⟨j + 1, by simp, by omega, rfl, HR.out⟩
                case measure => simp [intOf]; omega
              · by_cases hx9 : x = 92
                · have HR : Hid (ans true dbl n (pr n t true ld tr) t q (i + 1) = ans true dbl n (pr n t true ld tr) t q (j + 2)) := by
                    show _ = _
                    rw [HI.out, HLA.out]
                    rw [stepA, if_pos rfl, HX.out, if_neg hxq, if_pos (Or.inl hx9)]
                  have e2 : ((x : Int) == 92) = true := beq_iff_eq.2 (by omega)
                  clear hx9
                  go_wp2_with fail
                  go_roundw
                  case rel => exact ⟨j + 2, by simp, by omega, rfl, HR.out⟩
                  case measure => simp [intOf]; omega
                · have HR : Hid (ans true dbl n (pr n t true ld tr) t q (i + 1) = ans true dbl n (pr n t true ld tr) t q (j + 1)) := by
                    show _ = _
                    rw [HI.out, HLA.out]
                    simp [stepA, HX.out, HPR.out, hxq, hx9]
                  have e2 : ((x : Int) == 92) = false := beq_eq_false_iff_ne.2 (by omega)
                  go_wp2_with fail
                  go_roundw
                  case rel => exact ⟨j + 1, by simp, by omega, rfl, HR.out⟩
                  case measure => simp [intOf]; omega
          · obtain ⟨b2, hb2⟩ : ∃ b2, tr y = b2 := ⟨_, rfl⟩
            rw [hb2] at c4
            cases b2
            · have HPR : Hid ((pr n t true ld tr) j = false) := by
                show _ = _
                simp [pr, HX.out, HY.out, hb1, hb2]
              have HLA : Hid (ans bs dbl n (pr n t true ld tr) t q j = stepA bs dbl n (pr n t true ld tr) t q j (ans bs dbl n (pr n t true ld tr) t q (j + 1)) (ans bs dbl n (pr n t true ld tr) t q (j + 2))) := ans_lt h
              clear hb1 hb2
              by_cases hxq : x = q
              · have e1 : ((x : Int) == (q : Int)) = true := beq_iff_eq.2 (by omega)
                have HXQ : Hid (x = q) := hxq
                clear hxq
                cases bs
                · cases dbl
                  · have HR : Hid (ans false false n (pr n t true ld tr) t q (i + 1) = (j + 1, 0)) := by
                      show _ = _
                      rw [HI.out, HLA.out]
                      simp [stepA, HX.out, HPR.out, HXQ.out]
                    go_wp2_with fail
                    go_ret2
                    exact ⟨by rw [HR.out]; rfl, HW.out.1⟩
                  · by_cases h7 : y = q
                    · have HR : Hid (ans false true n (pr n t true ld tr) t q (i + 1) = ans false true n (pr n t true ld tr) t q (j + 2)) := by
                        show _ = _
                        rw [HI.out, HLA.out]
                        simp [stepA, HX.out, HPR.out, HXQ.out, h6, HY.out, h7]
                      have h8 : ((y : Int) == (q : Int)) = true := beq_iff_eq.2 (by omega)
                      clear h7
                      go_wp2_with fail
                      go_roundw
                      case rel => exact ⟨j + 2, by simp, by omega, rfl, HR.out⟩
                      case measure => simp [intOf]; omega
                    · have HR : Hid (ans false true n (pr n t true ld tr) t q (i + 1) = (j + 1, 0)) := by
                        show _ = _
                        rw [HI.out, HLA.out]
                        simp [stepA, HX.out, HPR.out, HXQ.out, h6, HY.out, h7]
                      have h8 : ((y : Int) == (q : Int)) = false := beq_eq_false_iff_ne.2 (by omega)
                      go_wp2_with fail
                      go_ret2
                      exact ⟨by rw [HR.out]; rfl, HW.out.1⟩
                · cases dbl
                  · have HR : Hid (ans true false n (pr n t true ld tr) t q (i + 1) = (j + 1, 0)) := by
                      show _ = _
                      rw [HI.out, HLA.out]
                      simp [stepA, HX.out, HPR.out, HXQ.out]
                    go_wp2_with fail
                    go_ret2
                    exact ⟨by rw [HR.out]; rfl, HW.out.1⟩
                  · by_cases h7 : y = q
                    · have HR : Hid (ans true true n (pr n t true ld tr) t q (i + 1) = ans true true n (pr n t true ld tr) t q (j + 2)) := by
                        show _ = _
                        rw [HI.out, HLA.out]
                        simp [stepA, HX.out, HPR.out, HXQ.out, h6, HY.out, h7]
                      have h8 : ((y : Int) == (q : Int)) = true := beq_iff_eq.2 (by omega)
                      clear h7
                      go_wp2_with fail
                      go_roundw
                      case rel => exact ⟨j + 2, by simp, by omega, rfl, HR.out⟩
                      case measure => simp [intOf]; omega
                    · have HR : Hid (ans true true n (pr n t true ld tr) t q (i + 1) = (j + 1, 0)) := by
                        show _ = _
                        rw [HI.out, HLA.out]
                        simp [stepA, HX.out, HPR.out, HXQ.out, h6, HY.out, h7]
                      have h8 : ((y : Int) == (q : Int)) = false := beq_eq_false_iff_ne.2 (by omega)
                      go_wp2_with fail
                      go_ret2
                      exact ⟨by rw [HR.out]; rfl, HW.out.1⟩
              · have e1 : ((x : Int) == (q : Int)) = false := beq_eq_false_iff_ne.2 (by omega)
                cases bs
                · have HR : Hid (ans false dbl n (pr n t true ld tr) t q (i + 1) = ans false dbl n (pr n t true ld tr) t q (j + 1)) := by
                    show _ = _
                    rw [HI.out, HLA.out]
                    simp [stepA, HX.out, HPR.out, hxq]
                  go_wp2_with fail
                  go_roundw
                  case rel => exact ⟨j + 1, by simp, by omega, rfl, HR.out⟩
                  case measure => simp [intOf]; omega
                · by_cases hx9 : x = 92
                  · have HR : Hid (ans true dbl n (pr n t true ld tr) t q (i + 1) = ans true dbl n (pr n t true ld tr) t q (j + 2)) := by
                      show _ = _
                      rw [HI.out, HLA.out]
                      rw [stepA, if_pos rfl, HX.out, if_neg hxq, if_pos (Or.inl hx9)]
                    have e2 : ((x : Int) == 92) = true := beq_iff_eq.2 (by omega)
                    clear hx9
                    go_wp2_with fail
                    go_roundw
                    case rel => exact ⟨j + 2, by simp, by omega, rfl, HR.out⟩
                    case measure => simp [intOf]; omega
                  · have HR : Hid (ans true dbl n (pr n t true ld tr) t q (i + 1) = ans true dbl n (pr n t true ld tr) t q (j + 1)) := by
                      show _ = _
                      rw [HI.out, HLA.out]
                      simp [stepA, HX.out, HPR.out, hxq, hx9]
                    have e2 : ((x : Int) == 92) = false := beq_eq_false_iff_ne.2 (by omega)
                    go_wp2_with fail
                    go_roundw
                    case rel => exact ⟨j + 1, by simp, by omega, rfl, HR.out⟩
                    case measure => simp [intOf]; omega
            · have HPR : Hid ((pr n t true ld tr) j = true) := by
                show _ = _
                simp [pr, HX.out, HY.out, hb1, hb2, h6]
              have HLA : Hid (ans bs dbl n (pr n t true ld tr) t q j = stepA bs dbl n (pr n t true ld tr) t q j (ans bs dbl n (pr n t true ld tr) t q (j + 1)) (ans bs dbl n (pr n t true ld tr) t q (j + 2))) := ans_lt h
              clear hb1 hb2
              by_cases hxq : x = q
              · have e1 : ((x : Int) == (q : Int)) = true := beq_iff_eq.2 (by omega)
                have HXQ : Hid (x = q) := hxq
                clear hxq
                cases bs
                · have HR : Hid (ans false dbl n (pr n t true ld tr) t q (i + 1) = ans false dbl n (pr n t true ld tr) t q (j + 2)) := by
                    show _ = _
                    rw [HI.out, HLA.out]
                    simp [stepA, HX.out, HPR.out, HXQ.out]
                  go_wp2_with fail
                  go_roundw
                  case rel => exact ⟨j + 2, by simp, by omega, rfl, HR.out⟩
                  case measure => simp [intOf]; omega
                · cases dbl
                  · have HR : Hid (ans true false n (pr n t true ld tr) t q (i + 1) = (j + 1, 0)) := by
                      show _ = _
                      rw [HI.out, HLA.out]
                      simp [stepA, HX.out, HPR.out, HXQ.out]
                    go_wp2_with fail
                    go_ret2
                    exact ⟨by rw [HR.out]; rfl, HW.out.1⟩
                  · by_cases h7 : y = q
                    · have HR : Hid (ans true true n (pr n t true ld tr) t q (i + 1) = ans true true n (pr n t true ld tr) t q (j + 2)) := by
                        show _ = _
                        rw [HI.out, HLA.out]
                        simp [stepA, HX.out, HPR.out, HXQ.out, h6, HY.out, h7]
                      have h8 : ((y : Int) == (q : Int)) = true := beq_iff_eq.2 (by omega)
                      clear h7
                      go_wp2_with fail
                      go_roundw
                      case rel => exact ⟨j + 2, by simp, by omega, rfl, HR.out⟩
                      case measure => simp [intOf]; omega
                    · have HR : Hid (ans true true n (pr n t true ld tr) t q (i + 1) = (j + 1, 0)) := by
                        show _ = _
                        rw [HI.out, HLA.out]
                        simp [stepA, HX.out, HPR.out, HXQ.out, h6, HY.out, h7]
                      have h8 : ((y : Int) == (q : Int)) = false := beq_eq_false_iff_ne.2 (by omega)
                      go_wp2_with fail
                      go_ret2
                      exact ⟨by rw [HR.out]; rfl, HW.out.1⟩
              · have e1 : ((x : Int) == (q : Int)) = false := beq_eq_false_iff_ne.2 (by omega)
                cases bs
                · have HR : Hid (ans false dbl n (pr n t true ld tr) t q (i + 1) = ans false dbl n (pr n t true ld tr) t q (j + 2)) := by
                    show _ = _
                    rw [HI.out, HLA.out]
                    simp [stepA, HX.out, HPR.out, hxq]
                  go_wp2_with fail
                  go_roundw
                  case rel => exact ⟨j + 2, by simp, by omega, rfl, HR.out⟩
                  case measure => simp [intOf]; omega
                · by_cases hx9 : x = 92
                  · have HR : Hid (ans true dbl n (pr n t true ld tr) t q (i + 1) = ans true dbl n (pr n t true ld tr) t q (j + 2)) := by
                      show _ = _
                      rw [HI.out, HLA.out]
                      rw [stepA, if_pos rfl, HX.out, if_neg hxq, if_pos (Or.inl hx9)]
                    have e2 : ((x : Int) == 92) = true := beq_iff_eq.2 (by omega)
                    clear hx9
                    go_wp2_with fail
                    go_roundw
                    case rel => exact ⟨j + 2, by simp, by omega, rfl, HR.out⟩
                    case measure => simp [intOf]; omega
                  · have HR : Hid (ans true dbl n (pr n t true ld tr) t q (i + 1) = ans true dbl n (pr n t true ld tr) t q (j + 2)) := by
                      show _ = _
                      rw [HI.out, HLA.out]
                      simp [stepA, HX.out, HPR.out, hxq, hx9]
                    have e2 : ((x : Int) == 92) = false := beq_eq_false_iff_ne.2 (by omega)
                    go_wp2_with fail
                    go_roundw
                    case rel => exact ⟨j + 2, by simp, by omega, rfl, HR.out⟩
                    case measure => simp [intOf]; omega
      · have h6' : decide ((j : Int) + 1 < (n : Int)) = false := decide_eq_false (by omega)
        cases has
        · have HPR : Hid ((pr n t false ld tr) j = false) := by
            show _ = _
            simp [pr]
          have HLA : Hid (ans bs dbl n (pr n t false ld tr) t q j = stepA bs dbl n (pr n t false ld tr) t q j (ans bs dbl n (pr n t false ld tr) t q (j + 1)) (ans bs dbl n (pr n t false ld tr) t q (j + 2))) := ans_lt h
          by_cases hxq : x = q
          · have e1 : ((x : Int) == (q : Int)) = true := beq_iff_eq.2 (by omega)
            have HXQ : Hid (x = q) := hxq
            clear hxq
            cases bs
            · cases dbl
              · have HR : Hid (ans false false n (pr n t false ld tr) t q (i + 1) = (j + 1, 0)) := by
                  show _ = _
                  rw [HI.out, HLA.out]
                  simp [stepA, HX.out, HPR.out, HXQ.out]
                go_wp2_with fail
                go_ret2
                exact ⟨by rw [HR.out]; rfl, HW.out.1⟩
              · have HR : Hid (ans false true n (pr n t false ld tr) t q (i + 1) = (j + 1, 0)) := by
                  show _ = _
                  rw [HI.out, HLA.out]
                  simp [stepA, HX.out, HPR.out, HXQ.out, h6]
                go_wp2_with fail
                go_ret2
                exact ⟨by rw [HR.out]; rfl, HW.out.1⟩
            · cases dbl
              · have HR : Hid (ans true false n (pr n t false ld tr) t q (i + 1) = (j + 1, 0)) := by
                  show _ = _
                  rw [HI.out, HLA.out]
                  simp [stepA, HX.out, HPR.out, HXQ.out]
                go_wp2_with fail
                go_ret2
                exact ⟨by rw [HR.out]; rfl, HW.out.1⟩
              · have HR : Hid (ans true true n (pr n t false ld tr) t q (i + 1) = (j + 1, 0)) := by
                  show _ = _
                  rw [HI.out, HLA.out]
                  simp [stepA, HX.out, HPR.out, HXQ.out, h6]
                go_wp2_with fail
                go_ret2
                exact ⟨by rw [HR.out]; rfl, HW.out.1⟩
          · have e1 : ((x : Int) == (q : Int)) = false := beq_eq_false_iff_ne.2 (by omega)
            cases bs
            · have HR : Hid (ans false dbl n (pr n t false ld tr) t q (i + 1) = ans false dbl n (pr n t false ld tr) t q (j + 1)) := by
                show _ = _
                rw [HI.out, HLA.out]
                simp [stepA, HX.out, HPR.out, hxq]
              go_wp2_with fail
              go_roundw
              case rel => exact ⟨j + 1, by simp, by omega, rfl, HR.out⟩
              case measure => simp [intOf]; omega
            · by_cases hx9 : x = 92
              · have HR : Hid (ans true dbl n (pr n t false ld tr) t q (i + 1) = ans true dbl n (pr n t false ld tr) t q (j + 2)) := by
                  show _ = _
                  rw [HI.out, HLA.out]
                  rw [stepA, if_pos rfl, HX.out, if_neg hxq, if_pos (Or.inl hx9)]
                have e2 : ((x : Int) == 92) = true := beq_iff_eq.2 (by omega)
                clear hx9
                go_wp2_with fail
                go_roundw
                case rel => exact ⟨j + 2, by simp, by omega, rfl, HR.out⟩
                case measure => simp [intOf]; omega
              · have HR : Hid (ans true dbl n (pr n t false ld tr) t q (i + 1) = ans true dbl n (pr n t false ld tr) t q (j + 1)) := by
                  show _ = _
                  rw [HI.out, HLA.out]
                  simp [stepA, HX.out, HPR.out, hxq, hx9]
                have e2 : ((x : Int) == 92) = false := beq_eq_false_iff_ne.2 (by omega)
                go_wp2_with fail
                go_roundw
                case rel => exact ⟨j + 1, by simp, by omega, rfl, HR.out⟩
                case measure => simp [intOf]; omega
        · obtain ⟨b1, hb1⟩ : ∃ b1, ld x = b1 := ⟨_, rfl⟩
          rw [hb1] at c3
          cases b1
          · have HPR : Hid ((pr n t true ld tr) j = false) := by
              show _ = _
              simp [pr, HX.out, hb1]
            have HLA : Hid (ans bs dbl n (pr n t true ld tr) t q j = stepA bs dbl n (pr n t true ld tr) t q j (ans bs dbl n (pr n t true ld tr) t q (j + 1)) (ans bs dbl n (pr n t true ld tr) t q (j + 2))) := ans_lt h
            clear hb1
            by_cases hxq : x = q
            · have e1 : ((x : Int) == (q : Int)) = true := beq_iff_eq.2 (by omega)
              have HXQ : Hid (x = q) := hxq
              clear hxq
              cases bs
              · cases dbl
                · have HR : Hid (ans false false n (pr n t true ld tr) t q (i + 1) = (j + 1, 0)) := by
                    show _ = _
                    rw [HI.out, HLA.out]
                    simp [stepA, HX.out, HPR.out, HXQ.out]
                  go_wp2_with fail
                  go_ret2
                  exact ⟨by rw [HR.out]; rfl, HW.out.1⟩
                · have HR : Hid (ans false true n (pr n t true ld tr) t q (i + 1) = (j + 1, 0)) := by
                    show _ = _
                    rw [HI.out, HLA.out]
                    simp [stepA, HX.out, HPR.out, HXQ.out, h6]
                  go_wp2_with fail
                  go_ret2
                  exact ⟨by rw [HR.out]; rfl, HW.out.1⟩
              · cases dbl
                · have HR : Hid (ans true false n (pr n t true ld tr) t q (i + 1) = (j + 1, 0)) := by
                    show _ = _
                    rw [HI.out, HLA.out]
                    simp [stepA, HX.out, HPR.out, HXQ.out]
                  go_wp2_with fail
                  go_ret2
                  exact ⟨by rw [HR.out]; rfl, HW.out.1⟩
                · have HR : Hid (ans true true n (pr n t true ld tr) t q (i + 1) = (j + 1, 0)) := by
                    show _ = _
                    rw [HI.out, HLA.out]
                    simp [stepA, HX.out, HPR.out, HXQ.out, h6]
                  go_wp2_with fail
                  go_ret2
                  exact ⟨by rw [HR.out]; rfl, HW.out.1⟩
            · have e1 : ((x : Int) == (q : Int)) = false := beq_eq_false_iff_ne.2 (by omega)
              cases bs
              · have HR : Hid (ans false dbl n (pr n t true ld tr) t q (i + 1) = ans false dbl n (pr n t true ld tr) t q (j + 1)) := by
                  show _ = _
                  rw [HI.out, HLA.out]
                  simp [stepA, HX.out, HPR.out, hxq]
                go_wp2_with fail
                go_roundw
                case rel => exact ⟨j + 1, by simp, by omega, rfl, HR.out⟩
                case measure => simp [intOf]; omega
              · by_cases hx9 : x = 92
                · have HR : Hid (ans true dbl n (pr n t true ld tr) t q (i + 1) = ans true dbl n (pr n t true ld tr) t q (j + 2)) := by
                    show _ = _
                    rw [HI.out, HLA.out]
                    rw [stepA, if_pos rfl, HX.out, if_neg hxq, if_pos (Or.inl hx9)]
                  have e2 : ((x : Int) == 92) = true := beq_iff_eq.2 (by omega)
                  clear hx9
                  go_wp2_with fail
                  go_roundw
                  case rel => exact ⟨j + 2, by simp, by omega, rfl, HR.out⟩
                  case measure => simp [intOf]; omega
                · have HR : Hid (ans true dbl n (pr n t true ld tr) t q (i + 1) = ans true dbl n (pr n t true ld tr) t q (j + 1)) := by
                    show _ = _
                    rw [HI.out, HLA.out]
                    simp [stepA, HX.out, HPR.out, hxq, hx9]
                  have e2 : ((x : Int) == 92) = false := beq_eq_false_iff_ne.2 (by omega)
                  go_wp2_with fail
                  go_roundw
                  case rel => exact ⟨j + 1, by simp, by omega, rfl, HR.out⟩
                  case measure => simp [intOf]; omega
          · have HPR : Hid ((pr n t true ld tr) j = false) := by
              show _ = _
              simp [pr, h6]
            have HLA : Hid (ans bs dbl n (pr n t true ld tr) t q j = stepA bs dbl n (pr n t true ld tr) t q j (ans bs dbl n (pr n t true ld tr) t q (j + 1)) (ans bs dbl n (pr n t true ld tr) t q (j + 2))) := ans_lt h
            clear hb1
            by_cases hxq : x = q
            · have e1 : ((x : Int) == (q : Int)) = true := beq_iff_eq.2 (by omega)
              have HXQ : Hid (x = q) := hxq
              clear hxq
              cases bs
              · cases dbl
                · have HR : Hid (ans false false n (pr n t true ld tr) t q (i + 1) = (j + 1, 0)) := by
                    show _ = _
                    rw [HI.out, HLA.out]
                    simp [stepA, HX.out, HPR.out, HXQ.out]
                  go_wp2_with fail
                  go_ret2
                  exact ⟨by rw [HR.out]; rfl, HW.out.1⟩
                · have HR : Hid (ans false true n (pr n t true ld tr) t q (i + 1) = (j + 1, 0)) := by
                    show _ = _
                    rw [HI.out, HLA.out]
                    simp [stepA, HX.out, HPR.out, HXQ.out, h6]
                  go_wp2_with fail
                  go_ret2
                  exact ⟨by rw [HR.out]; rfl, HW.out.1⟩
              · cases dbl
                · have HR : Hid (ans true false n (pr n t true ld tr) t q (i + 1) = (j + 1, 0)) := by
                    show _ = _
                    rw [HI.out, HLA.out]
                    simp [stepA, HX.out, HPR.out, HXQ.out]
                  go_wp2_with fail
                  go_ret2
                  exact ⟨by rw [HR.out]; rfl, HW.out.1⟩
                · have HR : Hid (ans true true n (pr n t true ld tr) t q (i + 1) = (j + 1, 0)) := by
                    show _ = _
                    rw [HI.out, HLA.out]
                    simp [stepA, HX.out, HPR.out, HXQ.out, h6]
                  go_wp2_with fail
                  go_ret2
                  exact ⟨by rw [HR.out]; rfl, HW.out.1⟩
            · have e1 : ((x : Int) == (q : Int)) = false := beq_eq_false_iff_ne.2 (by omega)
              cases bs
              · have HR : Hid (ans false dbl n (pr n t true ld tr) t q (i + 1) = ans false dbl n (pr n t true ld tr) t q (j + 1)) := by
                  show _ = _
                  rw [HI.out, HLA.out]
                  simp [stepA, HX.out, HPR.out, hxq]
                go_wp2_with fail
                go_roundw
                case rel => exact ⟨j + 1, by simp, by omega, rfl, HR.out⟩
                case measure => simp [intOf]; omega
              · by_cases hx9 : x = 92
                · have HR : Hid (ans true dbl n (pr n t true ld tr) t q (i + 1) = ans true dbl n (pr n t true ld tr) t q (j + 2)) := by
                    show _ = _
                    rw [HI.out, HLA.out]
                    rw [stepA, if_pos rfl, HX.out, if_neg hxq, if_pos (Or.inl hx9)]
                  have e2 : ((x : Int) == 92) = true := beq_iff_eq.2 (by omega)
                  clear hx9
                  go_wp2_with fail
                  go_roundw
                  case rel => exact ⟨j + 2, by simp, by omega, rfl, HR.out⟩
                  case measure => simp [intOf]; omega
                · have HR : Hid (ans true dbl n (pr n t true ld tr) t q (i + 1) = ans true dbl n (pr n t true ld tr) t q (j + 1)) := by
                    show _ = _
                    rw [HI.out, HLA.out]
                    simp [stepA, HX.out, HPR.out, hxq, hx9]
                  have e2 : ((x : Int) == 92) = false := beq_eq_false_iff_ne.2 (by omega)
                  go_wp2_with fail
                  go_roundw
                  case rel => exact ⟨j + 1, by simp, by omega, rfl, HR.out⟩
                  case measure => simp [intOf]; omega
    · have HR : Hid (ans bs dbl n (pr n t has ld tr) t q (i + 1) = (n, 1)) := by
        show _ = _
        rw [HI.out, ans_ge (by omega)]
      go_wp2_with fail
      go_ret2
      exact ⟨by rw [HR.out]; rfl, HW.out.1⟩

end Go.Proofs.Qxb6609257a
