/-
  The reader of objects, the reader of values being given behind its place.
-/
import Derived.Test.Qxb6605573aScan
namespace Go.Proofs.Qxb6605573a
open Go.RowKit
set_option linter.unusedVariables false
set_option linter.unusedSimpArgs false

/-- What holds at the head of each round. -/
def ObjRel (T n M : Nat) (t : Nat → Int) (p l : Nat) (w : World) (qv : Value) (wr : World) : Prop :=
  ∃ (q : Nat) (a1 : Option Addr) (c1 : Nat) (a2 : Option Addr) (c2 l' : Nat) (ar : Int), qv = .int .i64 q ∧ p < q ∧ q ≤ n ∧ Scan wr T n M t a1 l' c1 a2 l' c2 ar ∧ l ≤ l' ∧ l' ≤ q ∧ Pass t n (p + 1) q ∧ Below M w wr

set_option maxRecDepth 100000 in
set_option maxHeartbeats 1600000 in
theorem object_any (T n M : Nat) (t : Nat → Int) (p l : Nat) (w : World) (a1 : Option Addr) (c1 : Nat) (a2 : Option Addr) (c2 : Nat) (ar : Int) (hn : n ≤ 1048576) (hp : p < n) (h91 : Hid (t p = 123)) (hsc : Scan w T n M t a1 l c1 a2 l c2 ar) (hlp : l ≤ p)
    (IH : ∀ q, p < q → q ≤ n → ValueOK T n M t q) :
    Calls Try.prog 27 #[.pointer (some ⟨M, 0, none⟩), .int .i64 p] w (ValPost T n M t p l w) := by
  have HI := IH
  clear IH
  have IH : Hid (∀ q, p < q → q ≤ n → ValueOK T n M t q) := HI
  clear HI
  have k0 := hsc.cell0
  go_enter Try.func27, Try.ntmps27
  go_wp2_with fail
  refine (skipWS_at T n t _ (p + 1) _ (by omega) hn (by omega) hsc.txt).mono ?_
  rintro e w' ⟨q, rfl, hpq, hqn, hws, rfl⟩
  have HP : Hid (Pass t n (p + 1) q) := Pass.ws hpq hqn hws
  clear hws
  by_cases hq : q < n
  · have htq := hsc.txt q hq
    by_cases hc : t q = 125
    · have HC : Hid (t q = 125) := hc
      have hc' : (t q == 125) = true := by simpa using hc
      clear hc
      go_wp2_with fail
      go_ret
      exact .yes (q + 1) (by omega) (Below.refl _ _) (Val.ofNest hp (.inl h91.out) (by omega) HP.out hq (.inl HC.out)) hsc (Nat.le_refl _) (by omega)
    · have hc' : (t q == 125) = false := by simpa using hc
      clear hc
      have HS : Hid (Scan w' T n M t a1 l c1 a2 l c2 ar) := hsc
      clear hsc
      have hdec : decide (n ≤ q) = false := decide_eq_false (by omega)
      go_wp2_with fail
      go_loopw [5] (fun qv wr => ObjRel T n M t p l w' qv wr) (fun qv _ => n - (intOf qv).toNat)
      case atStart => exact ⟨q, _, _, _, _, l, _, rfl, by omega, hqn, HS.out, by omega, by omega, HP.out, Below.refl _ _⟩
      case round =>
        clear k0 HS HP htq hc' hq hpq hqn
        obtain ⟨q, a1, c1, a2, c2, l', ar, rfl, hpq, hqn, hs, hll, hlq, hpass, hb⟩ := hrel
        have HP : Hid (Pass t n (p + 1) q) := hpass
        have HB : Hid (Below M w' wr) := hb
        have HS : Hid (Scan wr T n M t a1 l' c1 a2 l' c2 ar) := hs
        have k0 := hs.cell0
        clear hpass hb hs
        by_cases hq : q < n
        · have htq := HS.out.txt q hq
          by_cases hc : t q = 34
          · have HC : Hid (t q = 34) := hc
            have hc' : (t q != 34) = false := by simpa using hc
            clear hc
            go_wp2_with fail
            refine (string_any T n t q _ hn hq HS.out.txt).mono ?_
            rintro e w2 ⟨r, rfl, hr, rfl⟩
            rcases hr with rfl | ⟨x, m, rfl, hstr⟩
            · go_wp2_with fail
              go_ret
              exact .no HB.out
            · have hb1 := hstr.bound
              have HP1 : Hid (Pass t n (p + 1) x) := HP.out.trans (Pass.str hq HC.out hstr)
              clear hstr
              have hb1a := hb1.1
              have hb1b := hb1.2
              clear hb1
              go_wp2_with fail
              refine (skipWS_at T n t _ x _ rfl hn hb1b HS.out.txt).mono ?_
              rintro e w3 ⟨q3, rfl, hq13, hq3n, hws3, rfl⟩
              have HP3 : Hid (Pass t n (p + 1) q3) := HP1.out.trans (Pass.ws hq13 hq3n hws3)
              clear hws3
              by_cases hq3 : q3 < n
              · have ht3 := HS.out.txt q3 hq3
                by_cases hd : t q3 = 58
                · have HD : Hid (t q3 = 58) := hd
                  have hd' : (t q3 != 58) = false := by simpa using hd
                  clear hd
                  go_wp2_with fail
                  refine (skipWS_at T n t _ (q3 + 1) _ (by omega) hn (by omega) HS.out.txt).mono ?_
                  rintro e w4 ⟨q4, rfl, hq34, hq4n, hws4, rfl⟩
                  have HP4 : Hid (Pass t n (p + 1) q4) := (HP3.out.trans (Pass.one hq3 (by rw [HD.out]; decide) (by rw [HD.out]; decide) (by rw [HD.out]; decide) (by rw [HD.out]; decide) (by rw [HD.out]; decide))).trans (Pass.ws hq34 hq4n hws4)
                  clear hws4
                  go_wp2_with fail
                  refine (IH.out q4 (by omega) hq4n w4 _ _ _ _ _ _ HS.out (by omega)).mono ?_
                  rintro e w5 ⟨r, rfl, hb5, hres⟩
                  rcases hres with rfl | ⟨q5, rfl, hval, b1, d1, b2, d2, l5, ar5, hs5, hl5, hl5q⟩
                  · go_wp2_with fail
                    go_ret
                    exact .no (HB.out.trans hb5)
                  · have k5 := hs5.cell0
                    have HP5 : Hid (Pass t n (p + 1) q5) := HP4.out.trans hval.pass
                    have HB5 : Hid (Below M w' w5) := HB.out.trans hb5
                    have HS5 : Hid (Scan w5 T n M t b1 l5 d1 b2 l5 d2 ar5) := hs5
                    have hv1 := hval.lt
                    have hv2 := hval.le
                    clear hval hb5 hs5 HS HP1 HP3 HP4 HP HB htq hc' ht3 hd' k0
                    go_wp2_with fail
                    refine (skipWS_at T n t _ q5 _ rfl hn hv2 HS5.out.txt).mono ?_
                    rintro e w6 ⟨q6, rfl, hq56, hq6n, hws6, rfl⟩
                    have HP6 : Hid (Pass t n (p + 1) q6) := HP5.out.trans (Pass.ws hq56 hq6n hws6)
                    clear hws6
                    by_cases hq6 : q6 < n
                    · have ht6 := HS5.out.txt q6 hq6
                      by_cases hc : t q6 = 125
                      · have HE : Hid (t q6 = 125) := hc
                        have hc' : (t q6 == 125) = true := by simpa using hc
                        clear hc
                        go_wp2_with fail
                        go_ret
                        exact .yes (q6 + 1) (by omega) HB5.out (Val.ofNest hp (.inl h91.out) (by omega) HP6.out hq6 (.inl HE.out)) HS5.out (by omega) (by omega)
                      · have hc' : (t q6 == 125) = false := by simpa using hc
                        clear hc
                        by_cases hd : t q6 = 44
                        · have HF : Hid (t q6 = 44) := hd
                          have hd' : (t q6 != 44) = false := by simpa using hd
                          clear hd
                          go_wp2_with fail
                          refine (skipWS_at T n t _ (q6 + 1) _ (by omega) hn (by omega) HS5.out.txt).mono ?_
                          rintro e w7 ⟨q7, rfl, hq67, hq7n, hws7, rfl⟩
                          have HP7 : Hid (Pass t n (p + 1) q7) := (HP6.out.trans (Pass.one hq6 (by rw [HF.out]; decide) (by rw [HF.out]; decide) (by rw [HF.out]; decide) (by rw [HF.out]; decide) (by rw [HF.out]; decide))).trans (Pass.ws hq67 hq7n hws7)
                          clear hws7
                          go_wp2_with fail
                          go_roundw
                          have R : ObjRel T n M t p l w' (.int .i64 q7) w7 := ⟨q7, _, _, _, _, l5, _, rfl, by omega, hq7n, HS5.out, by omega, by omega, HP7.out, HB5.out⟩
                          case rel => first | exact R | ((repeat apply Exists.intro); exact ⟨R, rfl⟩)
                          case measure => simp [intOf]; omega
                        · have hd' : (t q6 != 44) = true := by simpa using hd
                          clear hd
                          go_wp2_with fail
                          go_ret
                          exact .no HB5.out
                    · go_wp2_with fail
                      go_ret
                      exact .no HB5.out
                · have hd' : (t q3 != 58) = true := by simpa using hd
                  clear hd
                  go_wp2_with fail
                  go_ret
                  exact .no HB.out
              · go_wp2_with fail
                go_ret
                exact .no HB.out
          · have hc' : (t q != 34) = true := by simpa using hc
            clear hc
            go_wp2_with fail
            go_ret
            exact .no HB.out
        · go_wp2_with fail
          go_ret
          exact .no HB.out
  · go_wp2_with fail
    go_ret
    exact .no (Below.refl _ _)

end Go.Proofs.Qxb6605573a
