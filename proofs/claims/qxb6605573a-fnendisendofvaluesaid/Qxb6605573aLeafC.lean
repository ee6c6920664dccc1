/-
  The contract of the reader of strings.
-/
import Derived.Test.Qxb6605573aLeafB
namespace Go.Proofs.Qxb6605573a
open Go.RowKit
set_option linter.unusedVariables false
set_option linter.unusedSimpArgs false

/-- Whatever the string's end from k on, it is the end from p on. -/
def Cont (t : Nat → Int) (n p k : Nat) : Prop := ∀ x m, Str t n m k x → ∃ m', Str t n m' p x
theorem Cont.refl (t : Nat → Int) (n p : Nat) : Cont t n p p := fun x m h => ⟨m, h⟩
theorem Cont.trans {t : Nat → Int} {n p k j : Nat} (h : Cont t n p k) (g : Cont t n k j) : Cont t n p j := fun x m hm => by
  obtain ⟨m1, h1⟩ := g x m hm
  exact h x m1 h1
theorem Cont.one {t : Nat → Int} {n k : Nat} (hk : k < n) (h1 : t k ≠ 34) (h2 : t k ≠ 92) : Cont t n k (k + 1) := fun x m h => ⟨m + 1, hk, .inr (.inr ⟨h1, h2, h⟩)⟩
theorem Cont.esc {t : Nat → Int} {n k : Nat} (hk : k < n) (h1 : t k = 92) : Cont t n k (k + 2) := fun x m h => ⟨m + 1, hk, .inr (.inl ⟨h1, h⟩)⟩
theorem hex_plain {c : Int} (h : isHex c = true) : c ≠ 34 ∧ c ≠ 92 := by simp [isHex] at h; omega
theorem Cont.hexes {t : Nat → Int} {n k : Nat} (hk : k + 6 ≤ n) (h1 : t k = 92) (hx : ∀ i, k + 2 ≤ i → i < k + 6 → isHex (t i) = true) : Cont t n k (k + 6) := by
  have g : ∀ i, k + 2 ≤ i → i < k + 6 → Cont t n i (i + 1) := fun i a b => Cont.one (by omega) (hex_plain (hx i a b)).1 (hex_plain (hx i a b)).2
  exact (((((Cont.esc (by omega) h1).trans (g (k + 2) (by omega) (by omega))).trans (g (k + 3) (by omega) (by omega))).trans (g (k + 4) (by omega) (by omega))).trans (g (k + 5) (by omega) (by omega)))
theorem Cont.quote {t : Nat → Int} {n p k : Nat} (h : Cont t n p k) (hk : k < n) (h1 : t k = 34) : ∃ m, Str t n m p (k + 1) := h (k + 1) 1 ⟨hk, .inl ⟨h1, rfl⟩⟩

/-- What the reader of strings answers. -/
def StrRes (t : Nat → Int) (n p : Nat) (r : Int) : Prop := r = -1 ∨ ∃ x m : Nat, r = x ∧ Str t n m (p + 1) x

set_option maxRecDepth 100000 in
set_option maxHeartbeats 1600000 in
theorem string_any (T n : Nat) (t : Nat → Int) (p : Nat) (w : World) (hn : n ≤ 1048576) (hp : p < n) (htx : Txt w T n t) :
    Calls Try.prog 26 #[.slice (some ⟨T, 0, none⟩) n n, .int .i64 p] w fun e w' => ∃ r : Int, e = .returned (.int .i64 r) ∧ StrRes t n p r ∧ w' = w := by
  go_enter Try.func26, Try.ntmps26
  go_wp2
  go_loop [1] (fun i => ∃ k : Nat, i = .int .i64 k ∧ k ≤ n ∧ Cont t n (p + 1) k) (fun i => n - (intOf i).toNat)
  case atStart => exact ⟨p + 1, by go_num, by omega, Cont.refl _ _ _⟩
  case round =>
    obtain ⟨k, rfl, hkn, hcont⟩ := hrel
    have HC : Hid (Cont t n (p + 1) k) := hcont
    clear hcont
    by_cases hlt : k < n
    · have hcell := htx k hlt
      by_cases hq : t k = 34
      · have HQ : Hid (t k = 34) := hq
        have hq' : (t k == 34) = true := by simpa using hq
        clear hq htx
        go_wp2
        go_ret
        obtain ⟨m, hm⟩ := HC.out.quote hlt HQ.out
        exact ⟨(k : Int) + 1, rfl, .inr ⟨k + 1, m, by omega, hm⟩, rfl⟩
      · have HQ : Hid (t k ≠ 34) := hq
        have hq' : (t k == 34) = false := by simpa using hq
        clear hq
        by_cases hb : t k = 92
        · have HB : Hid (t k = 92) := hb
          have hb' : (t k != 92) = false := by simpa using hb
          clear hb
          by_cases hlt1 : k + 1 < n
          · have hcell1 := htx (k + 1) hlt1
            by_cases hu : t (k + 1) = 117
            · have hu' : (t (k + 1) == 117) = true := by simpa using hu
              clear hu
              by_cases h6 : n - k < 6
              · clear htx
                have h6' : (n : Int) - k < 6 := by omega
                go_wp2
                go_ret
                exact ⟨-1, rfl, .inl rfl, rfl⟩
              · have h6' : ¬ (n : Int) - k < 6 := by omega
                go_wp2
                go_loop [7] (fun i => ∃ j : Nat, i = .int .i64 j ∧ k + 2 ≤ j ∧ j ≤ k + 6 ∧ (∀ i, k + 2 ≤ i → i < j → isHex (t i) = true)) (fun i => k + 6 - (intOf i).toNat)
                case atStart => exact ⟨k + 2, by go_num, by omega, by omega, fun i h1 h2 => by omega⟩
                case round =>
                  obtain ⟨j, rfl, hj2, hj6, hall⟩ := hrel
                  have HA : Hid (∀ i, k + 2 ≤ i → i < j → isHex (t i) = true) := hall
                  clear hall
                  by_cases hjlt : j < k + 6
                  · have hcellj := htx j (by omega)
                    clear htx
                    by_cases hx : isHex (t j) = true
                    · go_wp2_with (go_at_call 33; refine (isHex_any _ _).mono ?_; rintro e w' ⟨rfl, rfl⟩)
                      go_round
                      case rel => exact ⟨j + 1, by go_num, by omega, by omega, fun i h1 h2 => by
                        by_cases hj : i = j
                        · subst hj; exact hx
                        · exact HA.out i h1 (by omega)⟩
                      case measure => simp [intOf]; omega
                    · have hx' : isHex (t j) = false := by simpa using hx
                      clear hx
                      go_wp2_with (go_at_call 33; refine (isHex_any _ _).mono ?_; rintro e w' ⟨rfl, rfl⟩)
                      go_ret
                      exact ⟨-1, rfl, .inl rfl, rfl⟩
                  · clear htx
                    go_wp2_with fail
                    go_round
                    case rel => exact ⟨k + 6, by go_num, by omega, HC.out.trans (Cont.hexes (by omega) HB.out fun i h1 h2 => HA.out i h1 (by omega))⟩
                    case measure => simp [intOf]; omega
            · have hu' : (t (k + 1) == 117) = false := by simpa using hu
              clear hu htx
              go_wp2
              all_goals first
                | (go_ret; exact ⟨-1, rfl, .inl rfl, rfl⟩)
                | (go_round; (case rel => exact ⟨k + 2, by go_num, by omega, HC.out.trans (Cont.esc hlt HB.out)⟩); (case measure => simp [intOf]; omega))
          · clear htx
            go_wp2
            go_ret
            exact ⟨-1, rfl, .inl rfl, rfl⟩
        · have HB : Hid (t k ≠ 92) := hb
          have hb' : (t k != 92) = true := by simpa using hb
          clear hb htx
          go_wp2
          go_round
          case rel => exact ⟨k + 1, by go_num, by omega, HC.out.trans (Cont.one hlt HQ.out HB.out)⟩
          case measure => simp [intOf]; omega
    · clear htx
      go_wp2
      go_ret
      exact ⟨-1, rfl, .inl rfl, rfl⟩

end Go.Proofs.Qxb6605573a
