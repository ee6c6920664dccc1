/-
  The reader of values, by induction on what is left of the text.
-/
import Derived.Test.Qxb6605573aArray
import Derived.Test.Qxb6605573aObject
namespace Go.Proofs.Qxb6605573a
open Go.RowKit
set_option linter.unusedVariables false
set_option linter.unusedSimpArgs false

theorem Val.ofWord {t : Nat → Int} {n p : Nat} {wd : ByteArray} (h0 : 0 < wd.size) (hle : p + wd.size ≤ n) (h : ∀ k (h : k < wd.size), t (p + k) = (wd[k].toNat : Int))
    (hb : wd.data.toList.all (fun b => isBare (b.toNat : Int)) = true) : Val t n p (p + wd.size) := by
  refine Val.ofBare (by omega) hle fun j h1 h2 => ?_
  have hk : j - p < wd.size := by omega
  have e := h (j - p) hk
  rw [show p + (j - p) = j by omega] at e
  rw [e]
  rw [List.all_eq_true] at hb
  refine hb _ ?_
  show wd.data[j - p] ∈ wd.data.toList
  simp

set_option maxRecDepth 100000 in
set_option maxHeartbeats 1600000 in
theorem value_step (T n M : Nat) (t : Nat → Int) (hn : n ≤ 1048576) (p : Nat) (hp : p ≤ n) (IH : ∀ q, p < q → q ≤ n → ValueOK T n M t q) : ValueOK T n M t p := by
  intro w a1 c1 a2 c2 l ar hsc hlp
  have HI := IH
  clear IH
  have IH : Hid (∀ q, p < q → q ≤ n → ValueOK T n M t q) := HI
  clear HI
  have k0 := hsc.cell0
  have HS : Hid (Scan w T n M t a1 l c1 a2 l c2 ar) := hsc
  clear hsc
  by_cases hlt : p < n
  · have htp := HS.out.txt p hlt
    by_cases h34 : t p = 34
    · have HC : Hid (t p = 34) := h34
      have hc : (t p == 34) = true := by simpa using h34
      clear h34
      go_enter Try.func13, Try.ntmps13
      go_wp2_with fail
      refine (string_any T n t p _ hn hlt HS.out.txt).mono ?_
      rintro e w2 ⟨r, rfl, hr, rfl⟩
      go_wp2_with fail
      go_ret
      rcases hr with rfl | ⟨x, m, rfl, hstr⟩
      · exact .no (Below.refl _ _)
      · exact .yes x rfl (Below.refl _ _) (Val.ofStr hlt HC.out hstr) HS.out (Nat.le_refl _) (by have := hstr.bound; omega)
    have h34' : (t p == 34) = false := by simpa using h34
    clear h34
    by_cases h123 : t p = 123
    · have HC : Hid (t p = 123) := h123
      have hc : (t p == 123) = true := by simpa using h123
      clear h123
      go_enter Try.func13, Try.ntmps13
      go_wp2_with fail
      refine (object_any T n M t p l w a1 c1 a2 c2 ar hn hlt HC HS.out hlp IH.out).mono ?_
      rintro e w2 ⟨r, rfl, hr⟩
      go_wp2_with fail
      go_ret
      exact ⟨r, rfl, hr⟩
    have h123' : (t p == 123) = false := by simpa using h123
    clear h123
    by_cases h91 : t p = 91
    · have HC : Hid (t p = 91) := h91
      have hc : (t p == 91) = true := by simpa using h91
      clear h91
      go_enter Try.func13, Try.ntmps13
      go_wp2_with fail
      refine (array_any T n M t p l w a1 c1 a2 c2 ar hn hlt HC HS.out hlp IH.out).mono ?_
      rintro e w2 ⟨r, rfl, hr⟩
      go_wp2_with fail
      go_ret
      exact ⟨r, rfl, hr⟩
    have h91' : (t p == 91) = false := by simpa using h91
    clear h91
    by_cases h116 : t p = 116
    · have hc : (t p == 116) = true := by simpa using h116
      clear h116
      go_enter Try.func13, Try.ntmps13
      go_wp2_with fail
      refine (word_any T n t p _ _ hn hp (by decide) HS.out.txt).mono ?_
      rintro e w2 ⟨r, rfl, hr, q, rfl⟩
      go_wp2_with fail
      go_ret
      rcases hr with rfl | ⟨rfl, hle, hr⟩
      · exact .no (below_drewN (Below.refl _ _) _)
      · exact .yes _ (by omega) (below_drewN (Below.refl _ _) _) (Val.ofWord (by decide) hle hr (by decide)) (HS.out.drewN _) (Nat.le_refl _) (by omega)
    have h116' : (t p == 116) = false := by simpa using h116
    clear h116
    by_cases h102 : t p = 102
    · have hc : (t p == 102) = true := by simpa using h102
      clear h102
      go_enter Try.func13, Try.ntmps13
      go_wp2_with fail
      refine (word_any T n t p _ _ hn hp (by decide) HS.out.txt).mono ?_
      rintro e w2 ⟨r, rfl, hr, q, rfl⟩
      go_wp2_with fail
      go_ret
      rcases hr with rfl | ⟨rfl, hle, hr⟩
      · exact .no (below_drewN (Below.refl _ _) _)
      · exact .yes _ (by omega) (below_drewN (Below.refl _ _) _) (Val.ofWord (by decide) hle hr (by decide)) (HS.out.drewN _) (Nat.le_refl _) (by omega)
    have h102' : (t p == 102) = false := by simpa using h102
    clear h102
    by_cases h110 : t p = 110
    · have hc : (t p == 110) = true := by simpa using h110
      clear h110
      go_enter Try.func13, Try.ntmps13
      go_wp2_with fail
      refine (word_any T n t p _ _ hn hp (by decide) HS.out.txt).mono ?_
      rintro e w2 ⟨r, rfl, hr, q, rfl⟩
      go_wp2_with fail
      go_ret
      rcases hr with rfl | ⟨rfl, hle, hr⟩
      · exact .no (below_drewN (Below.refl _ _) _)
      · exact .yes _ (by omega) (below_drewN (Below.refl _ _) _) (Val.ofWord (by decide) hle hr (by decide)) (HS.out.drewN _) (Nat.le_refl _) (by omega)
    have h110' : (t p == 110) = false := by simpa using h110
    clear h110
    go_enter Try.func13, Try.ntmps13
    go_wp2_with fail
    refine (number_any T n t p _ hn hp HS.out.txt).mono ?_
    rintro e w2 ⟨r, rfl, hr, rfl⟩
    go_wp2_with fail
    go_ret
    rcases hr with rfl | ⟨x, rfl, hpx, hxn, hall⟩
    · exact .no (Below.refl _ _)
    · exact .yes x rfl (Below.refl _ _) (Val.ofBare hpx hxn hall) HS.out (Nat.le_refl _) (by omega)
  · go_enter Try.func13, Try.ntmps13
    go_wp2_with fail
    go_ret
    exact .no (Below.refl _ _)

theorem value_all (T n M : Nat) (t : Nat → Int) (hn : n ≤ 1048576) : ∀ m p, n - p ≤ m → p ≤ n → ValueOK T n M t p
  | 0, p, h, hp => value_step T n M t hn p hp fun q h1 h2 => by omega
  | m + 1, p, h, hp => value_step T n M t hn p hp fun q h1 h2 => value_all T n M t hn m q (by omega) h2

end Go.Proofs.Qxb6605573a
