/-
  The decoder's side: end.
-/
import Derived.Test.Qxb6605573aDecB
namespace Go.Proofs.Qxb6605573a
open Go.RowKit
set_option linter.unusedVariables false
set_option linter.unusedSimpArgs false

def EndRel (t : Nat → Int) (n r : Nat) (iv dv : Value) : Prop := ∃ i d k : Nat, iv = .int .i64 i ∧ dv = .int .i64 d ∧ d ≤ i ∧ Ret t n k i d r

set_option maxRecDepth 100000 in
set_option maxHeartbeats 1600000 in
theorem end_str (T n D : Nat) (t : Nat → Int) (esc : Bool) (p r m : Nat) (w : World) (hd : Dec w T n D t esc) (hp : p < n) (h34 : t p = 34) (hs : Str t n m (p + 1) r) :
    Calls Try.prog 30 #[.pointer (some ⟨D, 0, none⟩), .int .i64 p] w fun e w' => e = .returned (.int .i64 r) ∧ w' = w := by
  have hc : (t p == 34) = true := by simpa using h34
  have c0 := hd.c0
  have htp := hd.txt p hp
  have hn := hd.size
  have HD : Hid (Dec w T n D t esc) := hd
  clear h34 hd
  go_enter Try.func30, Try.ntmps30
  go_wp2_with fail
  refine (stringEnd_any T n D t esc p r m _ HD.out hs).mono ?_
  rintro e w' ⟨b, rfl, rfl⟩
  go_wp2_with fail
  go_ret
  exact ⟨rfl, rfl⟩

set_option maxRecDepth 100000 in
set_option maxHeartbeats 3200000 in
theorem end_nest (T n D : Nat) (t : Nat → Int) (esc : Bool) (p r k : Nat) (w : World) (hd : Dec w T n D t esc) (hp : p < n) (ho : t p = 123 ∨ t p = 91) (hs : Ret t n k p 0 r) :
    Calls Try.prog 30 #[.pointer (some ⟨D, 0, none⟩), .int .i64 p] w fun e w' => e = .returned (.int .i64 r) ∧ w' = w := by
  have c0 := hd.c0
  have htp := hd.txt p hp
  have hn := hd.size
  have HD : Hid (Dec w T n D t esc) := hd
  have HS : Hid (Ret t n k p 0 r) := hs
  have h34 : (t p == 34) = false := by simp; omega
  clear hd hs
  rcases ho with ho | ho
  all_goals
    first
    | have h1 : (t p == 123) = true := by simpa using ho
    | (have h1 : (t p == 123) = false := by simp; omega
       have h2 : (t p == 91) = true := by simpa using ho)
    clear ho
    go_enter Try.func30, Try.ntmps30
    go_wp2_with fail
    go_loop [1, 8] (fun iv dv => EndRel t n r iv dv) (fun iv _ => n - (intOf iv).toNat)
    case atStart => exact ⟨p, 0, k, rfl, rfl, Nat.zero_le _, HS.out⟩
    case round =>
      clear HS htp
      obtain ⟨i, d, k, rfl, rfl, hdi, hret0⟩ := hrel
      match k, hret0 with
      | k + 1, ⟨hi, hret⟩ =>
        have hti := HD.out.txt i hi
        rcases hret with ⟨c1, m, x, hstr, hret⟩ | ⟨c1, hret⟩ | ⟨c1, hd1, hret⟩ | ⟨c1, hd2, hret⟩ | ⟨n1, n2, n3, n4, n5, hret⟩
        · have e1 : (t i == 34) = true := by simpa using c1
          have hb := hstr.bound
          have hb1 := hb.1
          have hb2 := hb.2
          have HR : Hid (Str t n m (i + 1) x ∧ Ret t n k x d r) := ⟨hstr, hret⟩
          clear c1 hstr hret hb
          go_wp2_with fail
          refine (stringEnd_any T n D t esc i x m _ HD.out HR.out.1).mono ?_
          rintro e w' ⟨b, rfl, rfl⟩
          go_wp2_with fail
          go_round
          case rel => exact ⟨x, d, k, by go_num, rfl, by omega, HR.out.2⟩
          case measure => simp [intOf]; omega
        · have e1 : (t i == 34) = false := by simp; omega
          have HR : Hid (Ret t n k (i + 1) (d + 1) r) := hret
          clear hret
          rcases c1 with c1 | c1
          · have e2 : (t i == 123) = true := by simpa using c1
            clear c1
            go_wp2_with fail
            go_round
            case rel => exact ⟨i + 1, d + 1, k, by go_num, by go_num, by omega, HR.out⟩
            case measure => simp [intOf]; omega
          · have e2 : (t i == 123) = false := by simp; omega
            have e3 : (t i == 91) = true := by simpa using c1
            clear c1
            go_wp2_with fail
            go_round
            case rel => exact ⟨i + 1, d + 1, k, by go_num, by go_num, by omega, HR.out⟩
            case measure => simp [intOf]; omega
        · have e1 : (t i == 34) = false := by simp; omega
          have e2 : (t i == 123) = false := by simp; omega
          have e3 : (t i == 91) = false := by simp; omega
          subst hd1
          have HR : Hid (r = i + 1) := hret
          clear hret
          rcases c1 with c1 | c1
          · have e4 : (t i == 125) = true := by simpa using c1
            clear c1
            go_wp2_with fail
            go_ret
            exact ⟨ret_int (by have := HR.out; omega), rfl⟩
          · have e4 : (t i == 125) = false := by simp; omega
            have e5 : (t i == 93) = true := by simpa using c1
            clear c1
            go_wp2_with fail
            go_ret
            exact ⟨ret_int (by have := HR.out; omega), rfl⟩
        · have e1 : (t i == 34) = false := by simp; omega
          have e2 : (t i == 123) = false := by simp; omega
          have e3 : (t i == 91) = false := by simp; omega
          have HR : Hid (Ret t n k (i + 1) (d - 1) r) := hret
          clear hret
          rcases c1 with c1 | c1
          · have e4 : (t i == 125) = true := by simpa using c1
            clear c1
            go_wp2_with fail
            go_round
            case rel => exact ⟨i + 1, d - 1, k, by go_num, by go_num, by omega, HR.out⟩
            case measure => simp [intOf]; omega
          · have e4 : (t i == 125) = false := by simp; omega
            have e5 : (t i == 93) = true := by simpa using c1
            clear c1
            go_wp2_with fail
            go_round
            case rel => exact ⟨i + 1, d - 1, k, by go_num, by go_num, by omega, HR.out⟩
            case measure => simp [intOf]; omega
        · have e1 : (t i == 34) = false := by simpa using n1
          have e2 : (t i == 123) = false := by simpa using n2
          have e3 : (t i == 91) = false := by simpa using n3
          have e4 : (t i == 125) = false := by simpa using n4
          have e5 : (t i == 93) = false := by simpa using n5
          have HR : Hid (Ret t n k (i + 1) d r) := hret
          clear hret n1 n2 n3 n4 n5
          go_wp2_with fail
          go_round
          case rel => exact ⟨i + 1, d, k, by go_num, rfl, by omega, HR.out⟩
          case measure => simp [intOf]; omega

theorem delim_no {c : Int} (h : isDelim c = false) : (c == 44) = false ∧ (c == 125) = false ∧ (c == 93) = false ∧ (c == 32) = false ∧ (c == 9) = false ∧ (c == 10) = false ∧ (c == 13) = false := by
  simp [isDelim, isWS] at h ⊢; omega
theorem delim_yes {c : Int} (h : isDelim c = true) : (c == 44) = false → (c == 125) = false → (c == 93) = false → (c == 32) = false → (c == 9) = false → (c == 10) = false → (c == 13) = false → False := by
  simp [isDelim, isWS] at h ⊢; omega

set_option maxRecDepth 100000 in
set_option maxHeartbeats 3200000 in
theorem end_bare (T n D : Nat) (t : Nat → Int) (esc : Bool) (p r : Nat) (w : World) (hd : Dec w T n D t esc) (hp : p < n) (h1 : t p ≠ 34) (h2 : t p ≠ 123) (h3 : t p ≠ 91) (hpr : p ≤ r) (hrn : r ≤ n) (hno : ∀ j, p ≤ j → j < r → isDelim (t j) = false)
    (hend : r < n → isDelim (t r) = true) :
    Calls Try.prog 30 #[.pointer (some ⟨D, 0, none⟩), .int .i64 p] w fun e w' => e = .returned (.int .i64 r) ∧ w' = w := by
  have c0 := hd.c0
  have htp := hd.txt p hp
  have hn := hd.size
  have HD : Hid (Dec w T n D t esc) := hd
  have HN : Hid (∀ j, p ≤ j → j < r → isDelim (t j) = false) := hno
  have HE : Hid (r < n → isDelim (t r) = true) := hend
  have e1 : (t p == 34) = false := by simpa using h1
  have e2 : (t p == 123) = false := by simpa using h2
  have e3 : (t p == 91) = false := by simpa using h3
  clear hd hno hend h1 h2 h3
  go_enter Try.func30, Try.ntmps30
  go_wp2_with fail
  go_loop [1] (fun iv => ∃ i : Nat, iv = .int .i64 i ∧ p ≤ i ∧ i ≤ r) (fun iv => n - (intOf iv).toNat)
  case atStart => exact ⟨p, rfl, Nat.le_refl _, hpr⟩
  case round =>
    clear htp e1 e2 e3
    obtain ⟨i, rfl, hpi, hir⟩ := hrel
    by_cases hlt : i < r
    · obtain ⟨d1, d2, d3, d4, d5, d6, d7⟩ := delim_no (HN.out i hpi hlt)
      have hti := HD.out.txt i (by omega)
      go_wp2_with fail
      go_round
      case rel => exact ⟨i + 1, by go_num, by omega, by omega⟩
      case measure => simp [intOf]; omega
    · have hir' : i = r := by omega
      subst hir'
      by_cases hin : i < n
      · have hti := HD.out.txt i hin
        have HY : Hid (isDelim (t i) = true) := HE.out hin
        go_wp2_with fail
        all_goals first
          | (go_ret; exact ⟨rfl, rfl⟩)
          | exact (delim_yes HY.out (by assumption) (by assumption) (by assumption) (by assumption) (by assumption) (by assumption) (by assumption)).elim
      · go_wp2_with fail
        go_ret
        exact ⟨rfl, rfl⟩

/-- 'end' answers the end of the value. -/
theorem end_any (T n D : Nat) (t : Nat → Int) (esc : Bool) (p r : Nat) (w : World) (hd : Dec w T n D t esc) (hv : Val t n p r) (hend : t p ≠ 34 → t p ≠ 123 → t p ≠ 91 → r < n → isDelim (t r) = true) :
    Calls Try.prog 30 #[.pointer (some ⟨D, 0, none⟩), .int .i64 p] w fun e w' => e = .returned (.int .i64 r) ∧ w' = w := by
  have h1 := hv.lt
  have h2 := hv.le
  by_cases h34 : t p = 34
  · obtain ⟨m, hm⟩ := hv.str h34
    exact end_str T n D t esc p r m w hd (by omega) h34 hm
  by_cases ho : t p = 123 ∨ t p = 91
  · obtain ⟨k, hk⟩ := hv.nest ho
    exact end_nest T n D t esc p r k w hd (by omega) ho hk
  · have a : t p ≠ 123 := fun h => ho (.inl h)
    have b : t p ≠ 91 := fun h => ho (.inr h)
    exact end_bare T n D t esc p r w hd (by omega) h34 a b (by omega) h2 (hv.bare h34 a b) (hend h34 a b)

end Go.Proofs.Qxb6605573a
