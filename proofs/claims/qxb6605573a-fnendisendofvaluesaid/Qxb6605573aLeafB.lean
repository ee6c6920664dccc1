/-
  Contracts of the leaves: the number automaton, literals, strings, the look for a backslash.
-/
import Derived.Test.Qxb6605573aLeafA
namespace Go.Proofs.Qxb6605573a
open Go.RowKit
set_option linter.unusedVariables false
set_option linter.unusedSimpArgs false

theorem bare_of {c : Int} (h : c = 43 ∨ c = 45 ∨ c = 46 ∨ (48 ≤ c ∧ c ≤ 57) ∨ c = 69 ∨ c = 101) : isBare c = true := by
  simp [isBare, isDelim, isWS]; omega

set_option maxHeartbeats 1600000 in
theorem numStep_any (st c : Int) (w : World) (h0 : 0 ≤ st) (h8 : st ≤ 8) :
    Calls Try.prog 25 #[.int .i64 st, .int .u8 c] w fun e w' => ∃ x : Int, e = .returned (.int .i64 x) ∧ -1 ≤ x ∧ x ≤ 8 ∧ (0 ≤ x → isBare c = true ∧ x ≠ 0) ∧ w' = w := by
  go_enter Try.func25, Try.ntmps25
  go_wp2
  all_goals
    go_ret
    exact ⟨_, rfl, by omega, by omega, fun h => ⟨bare_of (by first | omega | (simp only [beq_iff_eq, beq_eq_false_iff_ne, ne_eq, Bool.and_eq_true, Bool.or_eq_true, decide_eq_true_eq] at *; omega)), by omega⟩, rfl⟩

set_option maxHeartbeats 800000 in
theorem number_any (T n : Nat) (t : Nat → Int) (p : Nat) (w : World) (hn : n ≤ 1048576) (hp : p ≤ n) (htx : Txt w T n t) :
    Calls Try.prog 10 #[.slice (some ⟨T, 0, none⟩) n n, .int .i64 p] w fun e w' => ∃ r : Int, e = .returned (.int .i64 r) ∧ (r = -1 ∨ ∃ q : Nat, r = q ∧ p < q ∧ q ≤ n ∧ (∀ j, p ≤ j → j < q → isBare (t j) = true)) ∧ w' = w := by
  go_enter Try.func10, Try.ntmps10
  go_wp2
  go_loop [1, 5] (fun i st => ∃ (k : Nat) (x : Int), i = .int .i64 k ∧ st = .int .i64 x ∧ 0 ≤ x ∧ x ≤ 8 ∧ p ≤ k ∧ k ≤ n ∧ (x ≠ 0 → p < k) ∧ (∀ j, p ≤ j → j < k → isBare (t j) = true)) (fun i _ => n - (intOf i).toNat)
  case atStart => exact ⟨p, 0, rfl, rfl, by omega, by omega, by omega, hp, by omega, fun j h1 h2 => by omega⟩
  case round =>
    obtain ⟨k, x, rfl, rfl, hx0, hx8, hpk, hkn, hx1, hall⟩ := hrel
    have HA : Hid ((x ≠ 0 → p < k) ∧ ∀ j, p ≤ j → j < k → isBare (t j) = true) := ⟨hx1, hall⟩
    clear hall hx1
    by_cases hlt : k < n
    · have hcell := htx k hlt
      clear htx
      go_wp2_with fail
      refine (numStep_any _ _ _ hx0 hx8).mono ?_
      rintro e w' ⟨y, rfl, hy1, hy8, hy, rfl⟩
      have HY : Hid (0 ≤ y → isBare (t k) = true ∧ y ≠ 0) := hy
      clear hy
      by_cases hyn : y < 0
      · go_wp2
        all_goals
          go_ret
          first
          | exact ⟨-1, rfl, .inl rfl, rfl⟩
          | exact ⟨k, rfl, .inr ⟨k, rfl, HA.out.1 (by first | omega | (simp only [beq_iff_eq] at *; omega)), hkn, HA.out.2⟩, rfl⟩
      · go_wp2
        go_round
        case rel => exact ⟨k + 1, y, by go_num, rfl, by omega, hy8, by omega, by omega, by omega, fun j h1 h2 => by
          by_cases hj : j = k
          · subst hj; exact (HY.out (by omega)).1
          · exact HA.out.2 j h1 (by omega)⟩
        case measure => simp [intOf]; omega
    · clear htx
      go_wp2
      all_goals
        go_ret
        first
        | exact ⟨-1, rfl, .inl rfl, rfl⟩
        | exact ⟨k, rfl, .inr ⟨k, rfl, HA.out.1 (by first | omega | (simp only [beq_iff_eq] at *; omega)), hkn, HA.out.2⟩, rfl⟩

/-- The text holds a backslash. -/
def hasB (t : Nat → Int) (n : Nat) : Bool := (List.range n).any fun j => t j == 92
theorem hasB_true {t : Nat → Int} {n k : Nat} (hk : k < n) (h : t k = 92) : true = hasB t n := by
  symm; simp only [hasB, List.any_eq_true]; exact ⟨k, by simpa using hk, by simpa using h⟩
theorem hasB_false {t : Nat → Int} {n : Nat} (h : ∀ j, j < n → t j ≠ 92) : false = hasB t n := by
  symm; simp only [hasB, List.any_eq_false]; intro j hj; simpa using h j (by simpa using hj)
theorem hasB_out {t : Nat → Int} {n : Nat} (h : hasB t n = false) : ∀ j, j < n → t j ≠ 92 := by
  simp only [hasB, List.any_eq_false] at h; intro j hj; simpa using h j (by simpa using hj)

set_option maxHeartbeats 400000 in
theorem hasBackslash_any (T n : Nat) (t : Nat → Int) (w : World) (hn : n ≤ 1048576) (htx : Txt w T n t) :
    Calls Try.prog 12 #[.slice (some ⟨T, 0, none⟩) n n] w fun e w' => e = .returned (.bool (hasB t n)) ∧ w' = w := by
  go_enter Try.func12, Try.ntmps12
  go_wp2
  go_loop [3] (fun i => ∃ k : Nat, i = .int .i64 k ∧ k ≤ n ∧ (∀ j, j < k → t j ≠ 92)) (fun i => n - (intOf i).toNat)
  case atStart => exact ⟨0, rfl, by omega, fun j h1 => by omega⟩
  case round =>
    obtain ⟨k, rfl, hkn, hall⟩ := hrel
    have HA : Hid (∀ j, j < k → t j ≠ 92) := hall
    clear hall
    by_cases hlt : k < n
    · have hcell := htx k hlt
      clear htx
      by_cases hw : t k = 92
      · have HW : Hid (t k = 92) := hw
        have hw' : (t k == 92) = true := by simpa using hw
        clear hw
        go_wp2
        go_ret
        exact ⟨ret_bool (hasB_true hlt HW.out), rfl⟩
      · have HW : Hid (t k ≠ 92) := hw
        have hw' : (t k == 92) = false := by simpa using hw
        clear hw
        go_wp2
        go_round
        case rel => exact ⟨k + 1, by go_num, by omega, fun j h2 => by
          by_cases hj : j = k
          · subst hj; exact HW.out
          · exact HA.out j (by omega)⟩
        case measure => simp [intOf]; omega
    · clear htx
      go_wp2
      go_ret
      exact ⟨ret_bool (hasB_false fun j hj => HA.out j (by omega)), rfl⟩

set_option maxHeartbeats 800000 in
theorem word_any (T n : Nat) (t : Nat → Int) (p : Nat) (wd : ByteArray) (w : World) (hn : n ≤ 1048576) (hp : p ≤ n) (hm : wd.size ≤ 16) (htx : Txt w T n t) :
    Calls Try.prog 28 #[.slice (some ⟨T, 0, none⟩) n n, .int .i64 p, .string wd] w fun e w' => ∃ r : Int, e = .returned (.int .i64 r) ∧ (r = -1 ∨ (r = p + wd.size ∧ p + wd.size ≤ n ∧ ∀ k (h : k < wd.size), t (p + k) = (wd[k].toNat : Int))) ∧ ∃ q, w' = w.drewN q := by
  by_cases hlen : n - p < wd.size
  · have hl : (n : Int) - p < wd.size := by omega
    go_enter Try.func28, Try.ntmps28
    go_wp2
    go_ret
    exact ⟨-1, rfl, .inl rfl, 0, rfl⟩
  · have hl : ¬ (n : Int) - p < wd.size := by omega
    go_enter Try.func28, Try.ntmps28
    go_wp2
    go_loopw [7] (fun i wr => ∃ k q : Nat, i = .int .i64 k ∧ k ≤ wd.size ∧ wr = w.drewN q ∧ ∀ j (h : j < wd.size), j < k → t (p + j) = (wd[j].toNat : Int)) (fun i _ => wd.size - (intOf i).toNat)
    case atStart => exact ⟨0, 0, rfl, by omega, rfl, fun j h1 h2 => by omega⟩
    case round =>
      obtain ⟨k, q, rfl, hkn, rfl, hall⟩ := hrel
      have HA : Hid (∀ j (h : j < wd.size), j < k → t (p + j) = (wd[j].toNat : Int)) := hall
      clear hall
      by_cases hlt : k < wd.size
      · have hcell := htx (p + k) (by omega)
        clear htx
        have hpk : (p : Int) + k < n := by omega
        go_wp2
        go_quiet (fail)
        go_wp2
        · go_ret
          exact ⟨-1, rfl, .inl rfl, q + nq, by simp⟩
        · have hne : (t (p + k) != (wd[k].toNat : Int)) = false := by assumption
          go_roundw
          case rel => exact ⟨k + 1, _, by go_num, by omega, rfl, fun j h1 h2 => by
            by_cases hj : j = k
            · subst hj; simpa using hne
            · exact HA.out j h1 (by omega)⟩
          case measure => simp [intOf]; omega
      · clear htx
        go_wp2
        go_ret
        exact ⟨p + wd.size, rfl, .inr ⟨rfl, by omega, fun j h => HA.out j h (by omega)⟩, q, rfl⟩

end Go.Proofs.Qxb6605573a
