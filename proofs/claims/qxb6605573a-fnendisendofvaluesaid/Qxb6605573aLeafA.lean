/-
  Contracts of the leaves: white space, delimiters, hex digits.
-/
import Derived.Test.Qxb6605573aRows
import Derived.Test.Qxb6605573aPlain
import Derived.WalkKit
import Derived.ProofKit
import Derived.Below
import Derived.Deep.QuietTactic
import Derived.BigQuiet
namespace Go.Proofs.Qxb6605573a
open Go.RowKit
set_option linter.unusedVariables false

/-- The text's bytes lie in block T. -/
def Txt (w : World) (T n : Nat) (t : Nat → Int) : Prop := ∀ j, j < n → w.cell? ⟨T, j, none⟩ = some (.int .u8 (t j))

theorem ret_bool {a b : Bool} (h : a = b) : Ending.returned (.bool a) = .returned (.bool b) := by rw [h]
theorem ret_int {k : IntKind} {a b : Int} (h : a = b) : Ending.returned (.int k a) = .returned (.int k b) := by rw [h]

theorem isWS_any (c : Int) (w : World) : Calls Try.prog 29 #[.int .u8 c] w fun e w' => e = .returned (.bool (isWS c)) ∧ w' = w := by
  go_enter Try.func29, Try.ntmps29
  go_wp2
  all_goals
    go_ret
    exact ⟨ret_bool (by simp [isWS, *]), rfl⟩

theorem isHex_any (c : Int) (w : World) : Calls Try.prog 33 #[.int .u8 c] w fun e w' => e = .returned (.bool (isHex c)) ∧ w' = w := by
  go_enter Try.func33, Try.ntmps33
  go_wp2
  all_goals
    go_ret
    exact ⟨ret_bool (by rw [Bool.eq_iff_iff]; simp [isHex]; omega), rfl⟩

theorem isDelim_any (c : Int) (w : World) : Calls Try.prog 14 #[.int .u8 c] w fun e w' => e = .returned (.bool (isDelim c)) ∧ w' = w := by
  go_enter Try.func14, Try.ntmps14
  go_wp2_with (go_at_call 29; refine (isWS_any _ _).mono ?_; rintro e w' ⟨rfl, rfl⟩)
  all_goals
    go_ret
    exact ⟨ret_bool (by simp [isDelim, *]), rfl⟩

set_option maxHeartbeats 400000 in
theorem skipWS_any (T n : Nat) (t : Nat → Int) (p : Nat) (w : World) (hn : n ≤ 1048576) (hp : p ≤ n) (htx : Txt w T n t) :
    Calls Try.prog 23 #[.slice (some ⟨T, 0, none⟩) n n, .int .i64 p] w fun e w' => ∃ q : Nat, e = .returned (.int .i64 q) ∧ p ≤ q ∧ q ≤ n ∧ (∀ j, p ≤ j → j < q → isWS (t j) = true) ∧ w' = w := by
  go_enter Try.func23, Try.ntmps23
  go_wp2
  go_loop [1] (fun i => ∃ k : Nat, i = .int .i64 k ∧ p ≤ k ∧ k ≤ n ∧ (∀ j, p ≤ j → j < k → isWS (t j) = true)) (fun i => n - (intOf i).toNat)
  case atStart => exact ⟨p, rfl, Nat.le_refl _, hp, fun j h1 h2 => by omega⟩
  case round =>
    obtain ⟨k, rfl, hpk, hkn, hall⟩ := hrel
    have HA : Hid (∀ j, p ≤ j → j < k → isWS (t j) = true) := hall
    clear hall
    by_cases hlt : k < n
    · have hcell := htx k hlt
      clear htx
      by_cases hw : isWS (t k) = true
      · go_wp2_with (go_at_call 29; refine (isWS_any _ _).mono ?_; rintro e w' ⟨rfl, rfl⟩)
        go_round
        case rel => exact ⟨k + 1, by go_num, by omega, by omega, fun j h1 h2 => by
          by_cases hj : j = k
          · subst hj; exact hw
          · exact HA.out j h1 (by omega)⟩
        case measure => simp [intOf]; omega
      · have hw' : isWS (t k) = false := by simpa using hw
        clear hw
        go_wp2_with (go_at_call 29; refine (isWS_any _ _).mono ?_; rintro e w' ⟨rfl, rfl⟩)
        go_ret
        exact ⟨k, rfl, hpk, hkn, HA.out, rfl⟩
    · clear htx
      go_wp2_with (go_at_call 29; refine (isWS_any _ _).mono ?_; rintro e w' ⟨rfl, rfl⟩)
      go_ret
      exact ⟨k, rfl, hpk, hkn, HA.out, rfl⟩

end Go.Proofs.Qxb6605573a
