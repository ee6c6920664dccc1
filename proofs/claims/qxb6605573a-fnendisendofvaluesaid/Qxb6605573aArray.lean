/-
  The reader of arrays, the reader of values being given behind its place.
-/
import Derived.Test.Qxb6605573aScan
namespace Go.Proofs.Qxb6605573a
open Go.RowKit
set_option linter.unusedVariables false
set_option linter.unusedSimpArgs false

theorem Try.info3 : (Try.prog.info? 3).map (fun i => (i.zero, i.size, i.bytes)) = some (some (.int .i64 0), 1, 8) := by kernel_rfl

/-- What holds at the head of each round. -/
def ArrRel (T n M : Nat) (t : Nat → Int) (p l : Nat) (w : World) (qv : Value) (wr : World) : Prop :=
  ∃ (q : Nat) (a1 : Option Addr) (c1 : Nat) (a2 : Option Addr) (c2 l' : Nat) (ar : Int), qv = .int .i64 q ∧ p < q ∧ q ≤ n ∧ Scan wr T n M t a1 l' c1 a2 l' c2 ar ∧ l < l' ∧ l' ≤ q ∧ Pass t n (p + 1) q ∧ Below M w wr

theorem cell_one_at {w : World} {v : Value} {e : TypeId} {z : Nat} (h : w.heap.size = z) : ∀ (j : Nat) (u : Value), [v][j]? = some u → (w.alloc (.cells #[v] e)).cell? ((⟨z, 0, none⟩ : Addr).add j) = some u := by
  subst h; exact cell_one_new _ _ _
theorem one_cell {k : IntKind} {x : Int} : ∀ u ∈ [Value.int k x], u.oneCell' = true := by intro u hu; simp at hu; subst hu; rfl

set_option maxRecDepth 100000 in
set_option maxHeartbeats 1600000 in
theorem array_any (T n M : Nat) (t : Nat → Int) (p l : Nat) (w : World) (a1 : Option Addr) (c1 : Nat) (a2 : Option Addr) (c2 : Nat) (ar : Int) (hn : n ≤ 1048576) (hp : p < n) (h91 : Hid (t p = 91)) (hsc : Scan w T n M t a1 l c1 a2 l c2 ar) (hlp : l ≤ p)
    (IH : ∀ q, p < q → q ≤ n → ValueOK T n M t q) :
    Calls Try.prog 18 #[.pointer (some ⟨M, 0, none⟩), .int .i64 p] w (ValPost T n M t p l w) := by
  have HI := IH
  clear IH
  have IH : Hid (∀ q, p < q → q ≤ n → ValueOK T n M t q) := HI
  clear HI
  obtain ⟨i0, hi, hz0, hz1, hz2⟩ := info_parts Try.info3
  have k0 := hsc.cell0
  have k1 := hsc.cell1
  go_enter Try.func18, Try.ntmps18
  go_wp2_with fail
  refine (skipWS_at T n t _ (p + 1) _ (by omega) hn (by omega) hsc.txt).mono ?_
  rintro e w' ⟨q, rfl, hpq, hqn, hws, rfl⟩
  have HP : Hid (Pass t n (p + 1) q) := Pass.ws hpq hqn hws
  clear hws
  by_cases hq : q < n
  · have htq := hsc.txt q hq
    by_cases hc : t q = 93
    · have HC : Hid (t q = 93) := hc
      have hc' : (t q == 93) = true := by simpa using hc
      clear hc
      go_wp2_with fail
      go_ret
      exact .yes (q + 1) (by omega) (Below.refl _ _) (Val.ofNest hp (.inr h91.out) (by omega) HP.out hq (.inr HC.out)) hsc (Nat.le_refl _) (by omega)
    · have hc' : (t q == 93) = false := by simpa using hc
      clear hc
      obtain ⟨x1, o1⟩ := hsc.own1
      have HS : Hid (Scan w' T n M t a1 l c1 a2 l c2 ar) := hsc
      have HO : Hid (w'.ownsRow (M + 1) 3 1 (.slice a1 l c1) l (x1.map (Value.int .i64))) := o1
      have hsz := hsc.lt
      clear hsc o1
      go_wp2_with (at_builtin; refine wpList_append_lies rfl (.tmp 41) (.tmp 44) 28 rfl (M + 1) 3 i0 (.int .i64 0) 1 8 Try.underlying28 hi hz0 hz1 hz2 rfl (by decide) _ l _ rfl (HO.out.alloc _) ⟨w'.heap.size, 0, none⟩ 1 1 [.int .i64 ((p : Int) + 1)] rfl rfl (cell_one_new _ _ _) one_cell (by unfold maxLen; omega) (by omega) (by simp; omega) ?_)
      intro v1 w1 ho1 hg1 hl1
      obtain ⟨g1, d1, rfl⟩ := own_shape ho1
      have S0 := HS.out.alloc (.cells #[Value.int IntKind.i64 (↑p + 1)] 3)
      have S1 := S0.push1 x1 hg1 ho1 (by simpa using hl1)
      obtain ⟨e1, f1⟩ := S0.own_block1 hg1
      have b1 : Below M w' w1 := ((Below.refl M w').alloc (by omega) _).grown hg1 (by simp; omega) (fun k e => by have := (HO.out.lt k e).1; omega)
      have k11 := (e1 1).trans S0.cell1
      have k12 := (e1 2).trans S0.cell2
      have k13 := (e1 3).trans S0.cell3
      have z11 := (f1 1).trans (S0.free 1)
      have z12 := (f1 2).trans (S0.free 2)
      have z13 := (f1 3).trans (S0.free 3)
      obtain ⟨x2, o2⟩ := S1.own2
      have hs1 : M < w1.heap.size := by have := S1.lt; simpa [World.setCell] using this
      have H1 : Hid (Below M w' w1) := b1
      have HS1 : Hid (Scan (w1.setCell ⟨M, 1, none⟩ (.slice (some ⟨g1, 0, none⟩) (l + 1) d1)) T n M t (some ⟨g1, 0, none⟩) (l + 1) d1 a2 l c2 ar) := S1
      have HO2 : Hid ((w1.setCell ⟨M, 1, none⟩ (.slice (some ⟨g1, 0, none⟩) (l + 1) d1)).ownsRow (M + 1) 3 1 (.slice a2 l c2) l (x2.map (Value.int .i64))) := o2
      clear ho1 hg1 hl1 S0 S1 e1 f1 b1 o2
      go_wp2_with (at_builtin; refine wpList_append_lies rfl (.tmp 52) (.tmp 53) 28 rfl (M + 1) 3 i0 (.int .i64 0) 1 8 Try.underlying28 hi hz0 hz1 hz2 rfl (by decide) _ l _ rfl (HO2.out.alloc _) ⟨w1.heap.size, 0, none⟩ 1 1 [.int .i64 0] rfl rfl (cell_one_at (by simp)) one_cell (by unfold maxLen; omega) (by omega) (by simp; omega) ?_)
      intro v2 w2 ho2 hg2 hl2
      obtain ⟨g2, d2, rfl⟩ := own_shape ho2
      have S0 := HS1.out.alloc (.cells #[Value.int IntKind.i64 0] 3)
      have S2 := S0.push2 x2 hg2 ho2 (by simpa using hl2)
      obtain ⟨e2, f2⟩ := S0.own_block2 hg2
      have b2 : Below M w' w2 := (((H1.out.setCell (p := ⟨M, 1, none⟩) (Nat.le_refl _) _).alloc (by simp; omega) _).grown hg2 (by simp; omega) (fun k e => by have := (HO2.out.lt k e).1; omega))
      have k21 := (e2 1).trans S0.cell1
      have k22 := (e2 2).trans S0.cell2
      have k23 := (e2 3).trans S0.cell3
      have z22 := (f2 2).trans (S0.free 2)
      have z23 := (f2 3).trans (S0.free 3)
      have H2 : Hid (Below M w' w2) := b2
      have HS2 : Hid (∀ ar', Scan ((w2.setCell ⟨M, 2, none⟩ (.slice (some ⟨g2, 0, none⟩) (l + 1) d2)).setCell ⟨M, 3, none⟩ (.int .i64 ar')) T n M t (some ⟨g1, 0, none⟩) (l + 1) d1 (some ⟨g2, 0, none⟩) (l + 1) d2 ar') := S2.count
      clear ho2 hg2 hl2 S0 S2 e2 f2 b2 HS1 HO2 HS HO k11 k12 k13 z11 z12 z13 H1
      go_wp2_with fail
      go_loopw [5] (fun qv wr => ArrRel T n M t p l w' qv wr) (fun qv _ => n - (intOf qv).toNat)
      case atStart => exact ⟨q, _, _, _, _, l + 1, _, rfl, by omega, hqn, HS2.out _, by omega, by omega, HP.out, (H2.out.setCell (p := ⟨M, 2, none⟩) (Nat.le_refl _) _).setCell (p := ⟨M, 3, none⟩) (Nat.le_refl _) _⟩
      case round =>
        clear k0 k1 k21 k22 k23 z22 z23 H2 HS2 HP htq hc' hq hpq hqn hsz hs1
        obtain ⟨q, a1, c1, a2, c2, l', ar, rfl, hpq, hqn, hs, hll, hlq, hpass, hb⟩ := hrel
        have HP : Hid (Pass t n (p + 1) q) := hpass
        have HB : Hid (Below M w' wr) := hb
        have HS : Hid (Scan wr T n M t a1 l' c1 a2 l' c2 ar) := hs
        clear hpass hb hs
        go_wp2_with fail
        refine (IH.out q hpq hqn wr _ _ _ _ _ _ HS.out hlq).mono ?_
        rintro e w3 ⟨r, rfl, hb3, hres⟩
        rcases hres with rfl | ⟨q3, rfl, hval, b1, d1, b2, d2, l3, ar3, hs3, hl3, hl3q⟩
        · go_wp2_with fail
          go_ret
          exact .no (HB.out.trans hb3)
        · obtain ⟨g, y, rfl, hMg, hy, hf, hset⟩ := hs3.row2 l (by omega)
          have k2 := hs3.cell2
          have k40 : ∀ y', (w3.setCell ⟨g, l, none⟩ (.int .i64 y')).cell? ⟨M, 0, none⟩ = some (.slice (some ⟨T, 0, none⟩) n n) := fun y' => (hset y').cell0
          have HV : Hid (Val t n q q3) := hval
          have HB3 : Hid (Below M wr w3) := hb3
          have HS3 : Hid (∀ y', Scan (w3.setCell ⟨g, l, none⟩ (.int .i64 y')) T n M t b1 l3 d1 (some ⟨g, 0, none⟩) l3 d2 ar3) := hset
          have hl' : (l : Int) < l3 := by omega
          have hv1 := hval.lt
          have hv2 := hval.le
          clear hval hb3 hset hs3 HS
          go_wp2_with fail
          refine (skipWS_at T n t _ q3 _ rfl hn hv2 (HS3.out _).txt).mono ?_
          rintro e w4 ⟨q4, rfl, hq34, hq4n, hws4, rfl⟩
          have HP4 : Hid (Pass t n (p + 1) q4) := (HP.out.trans HV.out.pass).trans (Pass.ws hq34 hq4n hws4)
          clear hws4
          have BE : ∀ y', Below M w' (w3.setCell ⟨g, l, none⟩ (.int .i64 y')) := fun y' => (HB.out.trans HB3.out).setCell (p := ⟨g, l, none⟩) (by simp; omega) _
          have HBE : Hid (∀ y', Below M w' (w3.setCell ⟨g, l, none⟩ (.int .i64 y'))) := BE
          clear BE
          by_cases hq4 : q4 < n
          · have ht4 : ∀ y', (w3.setCell ⟨g, l, none⟩ (.int .i64 y')).cell? ⟨T, q4, none⟩ = some (.int .u8 (t q4)) := fun y' => (HS3.out y').txt q4 hq4
            by_cases hc : t q4 = 93
            · have HC : Hid (t q4 = 93) := hc
              have hc' : (t q4 == 93) = true := by simpa using hc
              clear hc
              go_wp2_with fail
              go_ret
              exact .yes (q4 + 1) (by omega) (HBE.out _) (Val.ofNest hp (.inr h91.out) (by omega) HP4.out hq4 (.inr HC.out)) (HS3.out _) (by omega) (by omega)
            · have hc' : (t q4 == 93) = false := by simpa using hc
              clear hc
              by_cases hd : t q4 = 44
              · have HD : Hid (t q4 = 44) := hd
                have hd' : (t q4 != 44) = false := by simpa using hd
                clear hd
                go_wp2_with fail
                refine (skipWS_at T n t _ (q4 + 1) _ (by omega) hn (by omega) (HS3.out _).txt).mono ?_
                rintro e w5 ⟨q5, rfl, hq45, hq5n, hws5, rfl⟩
                have HP5 : Hid (Pass t n (p + 1) q5) := (HP4.out.trans (Pass.one hq4 (by rw [HD.out]; decide) (by rw [HD.out]; decide) (by rw [HD.out]; decide) (by rw [HD.out]; decide) (by rw [HD.out]; decide))).trans (Pass.ws hq45 hq5n hws5)
                clear hws5
                go_wp2_with fail
                go_roundw
                case rel => exact ⟨q5, _, _, _, _, l3, _, rfl, by omega, hq5n, HS3.out _, by omega, by omega, HP5.out, HBE.out _⟩
                case measure => simp [intOf]; omega
              · have hd' : (t q4 != 44) = true := by simpa using hd
                clear hd
                go_wp2_with fail
                go_ret
                exact .no (HBE.out _)
          · go_wp2_with fail
            go_ret
            exact .no (HBE.out _)
  · go_wp2_with fail
    go_ret
    exact .no (Below.refl _ _)

end Go.Proofs.Qxb6605573a
