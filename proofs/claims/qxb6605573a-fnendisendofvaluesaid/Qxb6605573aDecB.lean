/-
  The decoder's side: stringEnd.
-/
import Derived.Test.Qxb6605573aDecA
namespace Go.Proofs.Qxb6605573a
open Go.RowKit
set_option linter.unusedVariables false
set_option linter.unusedSimpArgs false

/-- The decoder in block D over the text in block T. -/
structure Dec (w : World) (T n D : Nat) (t : Nat → Int) (esc : Bool) : Prop where
  txt : Txt w T n t
  c0 : w.cell? ⟨D, 0, none⟩ = some (.slice (some ⟨T, 0, none⟩) n n)
  c2 : w.cell? ⟨D, 2, none⟩ = some (.bool esc)
  byte : ∀ j, 0 ≤ t j ∧ t j ≤ 255
  size : n ≤ 1048576
  plain : esc = false → ∀ j, j < n → t j ≠ 92

def SEPost (w : World) (x : Nat) (e : Ending) (w' : World) : Prop := ∃ b : Bool, e = .returned (.tuple #[.int .i64 x, .bool b]) ∧ w' = w

def SERel (t : Nat → Int) (n x : Nat) (iv ev qv : Value) : Prop :=
  ∃ (i q m : Nat) (b : Bool), iv = .int .i64 i ∧ ev = .bool b ∧ qv = .int .i64 q ∧ i ≤ q ∧ q < n ∧ t q = 34 ∧ (∀ j, i ≤ j → j < q → t j ≠ 34) ∧ Str t n m i x

theorem se_ret {a b : Int} {c : Bool} (h : a = b) : Ending.returned (.tuple #[.int .i64 a, .bool c]) = .returned (.tuple #[.int .i64 b, .bool c]) := by rw [h]

set_option maxRecDepth 100000 in
set_option maxHeartbeats 1600000 in
theorem stringEnd_any (T n D : Nat) (t : Nat → Int) (esc : Bool) (i x m : Nat) (w : World) (hd : Dec w T n D t esc) (hs : Str t n m (i + 1) x) :
    Calls Try.prog 34 #[.pointer (some ⟨D, 0, none⟩), .int .i64 i] w (SEPost w x) := by
  have HD : Hid (Dec w T n D t esc) := hd
  have HS : Hid (Str t n m (i + 1) x) := hs
  have hn := hd.size
  have c0 := hd.c0
  have c2 := hd.c2
  obtain ⟨j, hj1, hj2, _⟩ := hs.last
  clear hd hs
  have hi1 : i + 1 < n := by omega
  have hne : ¬ n = i + 1 := by omega
  clear hj1 hj2
  cases esc
  · go_enter Try.func34, Try.ntmps34
    go_wp2_with fail
    refine (index_at T (i + 1) _ _ t 34 _ HD.out.byte (by decide) (by decide) (fun k hk => HD.out.txt _ (by omega))).mono ?_
    rintro e w' ⟨r, rfl, hr, rfl⟩
    obtain ⟨q, rfl, hq1, hq2, hq3, hq4⟩ := HS.out.found hr
    have HQ : Hid (x = q + 1) := by
      obtain ⟨m', hm'⟩ := HS.out.skip hq1 fun j a b => ⟨hq4 j a b, HD.out.plain rfl j (by omega)⟩
      exact hm'.quote_end hq3
    clear hr hq3 hq4
    go_wp2_with fail
    go_ret2
    exact ⟨false, se_ret (by have := HQ.out; omega), rfl⟩
  · go_enter Try.func34, Try.ntmps34
    go_wp2_with fail
    refine (index_at T (i + 1) _ _ t 34 _ HD.out.byte (by decide) (by decide) (fun k hk => HD.out.txt _ (by omega))).mono ?_
    rintro e w' ⟨r, rfl, hr, rfl⟩
    obtain ⟨q, rfl, hq1, hq2, hq3, hq4⟩ := HS.out.found hr
    have HQ : Hid (t q = 34 ∧ ∀ j, i + 1 ≤ j → j < q → t j ≠ 34) := ⟨hq3, hq4⟩
    clear hr hq3 hq4
    go_wp2_with fail
    go_loop [1, 5, 7] (fun iv ev qv => SERel t n x iv ev qv) (fun iv _ _ => n - (intOf iv).toNat)
    case atStart => exact ⟨i + 1, q, m, false, by go_num, rfl, by go_num, hq1, hq2, HQ.out.1, HQ.out.2, HS.out⟩
    case round =>
      clear HQ HS hq1 hq2 hi1 hne
      obtain ⟨k, q, m, b, rfl, rfl, rfl, hkq, hqn, hq34, hno, hstr⟩ := hrel
      have HQ : Hid (t q = 34 ∧ (∀ j, k ≤ j → j < q → t j ≠ 34) ∧ Str t n m k x) := ⟨hq34, hno, hstr⟩
      clear hq34 hno hstr
      have hne : ¬ n = k := by omega
      go_wp2_with fail
      refine (index_at T k _ _ t 92 _ HD.out.byte (by decide) (by decide) (fun j hj => HD.out.txt _ (by omega))).mono ?_
      rintro e w2 ⟨r, rfl, hr, rfl⟩
      rcases hr with ⟨rfl, hno92⟩ | ⟨s, hs, rfl, h92, hbef⟩
      · have HX : Hid (x = q + 1) := by
          obtain ⟨m', hm'⟩ := HQ.out.2.2.skip hkq fun j a b => ⟨HQ.out.2.1 j a b, by have := hno92 (j - k) (by omega); rwa [show k + (j - k) = j by omega] at this⟩
          exact hm'.quote_end HQ.out.1
        clear hno92
        go_wp2_with fail
        go_ret2
        exact ⟨b, se_ret (by have := HX.out; omega), rfl⟩
      · obtain ⟨m1, hm1⟩ : ∃ m', Str t n m' (k + s + 2) x := by
          obtain ⟨m', hm'⟩ := HQ.out.2.2.skip (q := k + s) (by omega) fun j a b => ⟨HQ.out.2.1 j a (by omega), by have := hbef (j - k) (by omega); rwa [show k + (j - k) = j by omega] at this⟩
          exact hm'.slash h92
        obtain ⟨j, hj1, hj2, _⟩ := hm1.last
        have HM : Hid (Str t n m1 (k + s + 2) x) := hm1
        clear hbef h92 hm1
        have hk2 : k + s + 2 < n := by omega
        have hne2 : ¬ n = k + s + 2 := by omega
        have hne3 : ¬ n = k + (s + 2) := by omega
        clear hj1 hj2
        by_cases hgt : q < k + s + 2
        · go_wp2_with fail
          refine (index_at T (k + (s + 2)) _ _ t 34 _ HD.out.byte (by decide) (by decide) (fun j hj => HD.out.txt _ (by omega))).mono ?_
          rintro e w3 ⟨r, rfl, hr, rfl⟩
          have hm2 := HM.out
          rw [show k + s + 2 = k + (s + 2) by omega] at hm2
          obtain ⟨q2, rfl, hq1, hq2, hq3, hq4⟩ := hm2.found hr
          have HR : Hid (t q2 = 34 ∧ (∀ j, k + (s + 2) ≤ j → j < q2 → t j ≠ 34) ∧ Str t n m1 (k + (s + 2)) x) := ⟨hq3, hq4, hm2⟩
          clear hr hq3 hq4 hm2
          go_wp2_with fail
          go_round
          case rel => exact ⟨k + (s + 2), q2, m1, true, by go_num, rfl, by go_num, hq1, hq2, HR.out.1, HR.out.2.1, HR.out.2.2⟩
          case measure => simp [intOf]; omega
        · go_wp2_with fail
          go_round
          case rel => exact ⟨k + s + 2, q, m1, true, by go_num, rfl, rfl, by omega, hqn, HQ.out.1, fun j a b => HQ.out.2.1 j (by omega) b, HM.out⟩
          case measure => simp [intOf]; omega

end Go.Proofs.Qxb6605573a
