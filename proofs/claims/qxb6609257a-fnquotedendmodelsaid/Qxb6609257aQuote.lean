/-
  quoteEnd.
-/
import Derived.Test.Qxb6609257aEnds
import Derived.Test.Qxb6609257aWlk
namespace Go.Proofs.Qxb6609257a
open Go.RowKit
set_option linter.unusedVariables false
set_option linter.unusedSimpArgs false

def BPost (r : Nat × Nat) (w : World) (e : Ending) (w' : World) : Prop := e = .returned (.tuple #[.int .i64 (r.1 : Int), .int .u8 (r.2 : Int)]) ∧ Below w.heap.size w w'

theorem cell_past {w : World} {p : Addr} {v : Value} (h : w.cell? p = some v) : p.block < w.heap.size := by
  unfold World.cell? at h
  split at h
  · rename_i hh
    exact (Array.getElem?_eq_some_iff.1 hh).1
  · cases h
theorem cell_below {w w' : World} {p : Addr} {v : Value} (h : w.cell? p = some v) (hb : Below w.heap.size w w') : w'.cell? p = some v := (hb.cell (cell_past h)).trans h
theorem Mem.below {w w' : World} {T n : Nat} {t : Nat → Nat} {cs : Option Addr} {has : Bool} {ld tr : Nat → Bool} (h : Mem w T n t cs has ld tr) (hb : Below w.heap.size w w') : Mem w' T n t cs has ld tr := by
  refine ⟨fun k hk => cell_below (h.txt k hk) hb, h.byte, ?_⟩
  rcases h.cs with h | ⟨h1, g, h2, h3, h4⟩
  · exact .inl h
  · exact .inr ⟨h1, g, h2, fun k hk => cell_below (h3 k hk) hb, fun k hk => cell_below (h4 k hk) hb⟩
theorem bel_alloc (w : World) (o : Obj) : Below w.heap.size w (w.alloc o) := (Below.refl _ w).alloc (Nat.le_refl _) o

def QRel (dbl : Bool) (n : Nat) (p : Nat → Bool) (t : Nat → Nat) (q i : Nat) (W : World) (av fv : Value) (wr : World) : Prop :=
  ∃ a f m : Nat, av = .int .i64 a ∧ fv = .int .i64 f ∧ f ≤ a ∧ a ≤ n + 1 ∧ wr = W.drewN m ∧ Hid (ans true dbl n p t q i = ans true dbl n p t q (wlk p a f))

set_option maxRecDepth 100000 in
set_option maxHeartbeats 6400000 in
theorem quoteEnd_any (T n c : Nat) (t : Nat → Nat) (cs : Option Addr) (has : Bool) (ld tr : Nat → Bool) (i : Nat) (bs dbl : Bool) (w : World) (hm : Mem w T n t cs has ld tr) (hi : i < n) (hn : n ≤ 1048576) (hc : n ≤ c ∧ c ≤ 9223372036854775807) :
    Calls Try.prog 17 #[.slice (some ⟨T, 0, none⟩) n c, .int .i64 (i : Int), .agg #[.bool bs, .pointer cs], .bool dbl] w (BPost (ans bs dbl n (pr n t has ld tr) t (t i) (i + 1)) w) := by
  have HM : Hid (Mem (w.alloc (.cells #[.bool bs, .pointer cs] 27)) T n t cs has ld tr) := hm.below (bel_alloc _ _)
  have HB : Hid (Below w.heap.size w (w.alloc (.cells #[.bool bs, .pointer cs] 27))) := bel_alloc _ _
  have c0 := HM.out.txt i hi
  have c0' := hm.txt i hi
  have hqb := hm.byte i
  obtain ⟨q, hq⟩ : ∃ q, t i = q := ⟨_, rfl⟩
  rw [hq] at c0 c0' hqb ⊢
  clear hq hm
  cases bs
  · cases dbl
    · go_enter Try.func17, Try.ntmps17
      go_wp2_with fail
      refine (indexByte_any T n c t cs has ld tr (i + 1) q _ HM.out (by omega) hn hc hqb).mono ?_
      rintro e w' ⟨rfl, m2, rfl⟩
      rcases ans_plain (n := n) (p := pr n t has ld tr) (t := t) (q := q) n (i + 1) (by omega) with ⟨h1, h2⟩ | ⟨a, h1, h2, h3, h4, h5⟩
      · rw [h1]
        have HR : Hid (ans false false n (pr n t has ld tr) t q (i + 1) = (n, 1)) := h2
        clear h1 h2
        go_wp2_with fail
        go_ret2
        exact ⟨by rw [HR.out]; rfl, below_drewN HB.out _⟩
      · rw [h1]
        have HR : Hid (ans false false n (pr n t has ld tr) t q (i + 1) = (a + 1, 0)) := h5
        clear h1 h4 h5
        go_wp2_with fail
        go_ret2
        exact ⟨by rw [HR.out]; rfl, below_drewN HB.out _⟩
    · go_enter Try.func17, Try.ntmps17
      go_wp2_with fail
      refine (doubledEnd_any T n c t cs has ld tr (i + 1) q _ HM.out (by omega) hn hc hqb).mono ?_
      rintro e w' ⟨rfl, m2, rfl⟩
      obtain ⟨r, hr⟩ : ∃ r, ans false true n (pr n t has ld tr) t q (i + 1) = r := ⟨_, rfl⟩
      have HR : Hid (ans false true n (pr n t has ld tr) t q (i + 1) = r) := hr
      rw [hr]
      clear hr
      go_wp2_with fail
      go_ret2
      exact ⟨by rw [HR.out]; rfl, below_drewN HB.out _⟩
  · go_enter Try.func17, Try.ntmps17
    go_wp2_with fail
    go_loopw [12, 13] (fun av fv wr => QRel dbl n (pr n t has ld tr) t q (i + 1) (w.alloc (.cells #[.bool true, .pointer cs] 27)) av fv wr) (fun av _ _ => n + 1 - (intOf av).toNat)
    case atStart => exact ⟨i + 1, i + 1, 0, by simp, by simp, Nat.le_refl _, by omega, rfl, by rw [wlk_ge (Nat.le_refl _)]; rfl⟩
    case round =>
      obtain ⟨a, f, m, rfl, rfl, hfa, hal, rfl, HI⟩ := hrel
      by_cases h : a < n
      · have c1 := HM.out.txt a h
        have bx := HM.out.byte a
        obtain ⟨x, hx⟩ : ∃ x, t a = x := ⟨_, rfl⟩
        have HX : Hid (t a = x) := hx
        rw [hx] at c1 bx
        clear hx
        have hla : ans true dbl n (pr n t has ld tr) t q a = stepA true dbl n (pr n t has ld tr) t q a (ans true dbl n (pr n t has ld tr) t q (a + 1)) (ans true dbl n (pr n t has ld tr) t q (a + 2)) := ans_lt h
        unfold stepA at hla
        rw [if_pos rfl, HX.out] at hla
        have HLA : Hid (ans true dbl n (pr n t has ld tr) t q a = (if x = q then (if dbl = true ∧ a + 1 < n ∧ t (a + 1) = q then ans true dbl n (pr n t has ld tr) t q (a + 2) else (a + 1, 0)) else if x = 92 ∨ (pr n t has ld tr) a = true then ans true dbl n (pr n t has ld tr) t q (a + 2) else ans true dbl n (pr n t has ld tr) t q (a + 1))) := hla
        clear hla
        by_cases hxq : x = q
        · subst hxq
          go_wp2_with fail
          all_goals
            refine (charStart_any T n c t cs has ld tr f a _ (HM.out.drewN m) hfa h hn).mono ?_
            rintro e w' ⟨rfl, m2, rfl⟩
            by_cases hw : a < wlk (pr n t has ld tr) a f
            · obtain ⟨ha1, hov⟩ := back_over (dbl := dbl) (n := n) (p := (pr n t has ld tr)) (t := t) (q := x) hfa hw
              have HR : Hid (ans true dbl n (pr n t has ld tr) t x (i + 1) = ans true dbl n (pr n t has ld tr) t x (wlk (pr n t has ld tr) (a + 1) (a - 1))) := HI.out.trans hov
              have hcs : cst (pr n t has ld tr) a f = (a : Int) - 1 := cst_lt rfl hw
              rw [hcs]
              clear hov hcs hw
              go_wp2_with fail
              go_roundw
              case rel => exact ⟨a + 1, a - 1, _, by simp, by congr 1; omega, by omega, by omega, rfl, HR.out⟩
              case measure => simp [intOf]; omega
            · have hwa := wlk_at hfa hw
              have hcs : cst (pr n t has ld tr) a f = (a : Int) := cst_ge hwa (Nat.lt_irrefl _)
              rw [hcs]
              have H0 : Hid (ans true dbl n (pr n t has ld tr) t x (i + 1) = (if dbl = true ∧ a + 1 < n ∧ t (a + 1) = x then ans true dbl n (pr n t has ld tr) t x (a + 2) else (a + 1, 0))) := by
                show _ = _
                rw [HI.out, hwa, HLA.out]
                first | rw [if_pos rfl] | rw [if_pos trivial]
              clear hwa hcs hw
              cases dbl
              · have HR : Hid (ans true false n (pr n t has ld tr) t x (i + 1) = (a + 1, 0)) := by
                  show _ = _
                  rw [H0.out, if_neg (by simp)]
                go_wp2_with fail
                go_ret2
                exact ⟨by rw [HR.out]; rfl, below_drewN HB.out _⟩
              · by_cases h6 : a + 1 < n
                · have c2 := HM.out.txt (a + 1) h6
                  obtain ⟨y, hy⟩ : ∃ y, t (a + 1) = y := ⟨_, rfl⟩
                  have HY : Hid (t (a + 1) = y) := hy
                  rw [hy] at c2
                  clear hy
                  by_cases h7 : y = x
                  · have HR : Hid (ans true true n (pr n t has ld tr) t x (i + 1) = ans true true n (pr n t has ld tr) t x (a + 2)) := by
                      show _ = _
                      rw [H0.out, if_pos ⟨rfl, h6, by rw [HY.out]; exact h7⟩]
                    subst h7
                    have h9 : ((a : Int) + 1 == (n : Int)) = false := beq_eq_false_iff_ne.2 (by omega)
                    go_wp2_with fail
                    go_roundw
                    case rel => exact ⟨a + 2, a + 2, _, by simp, by simp, Nat.le_refl _, by omega, rfl, by rw [wlk_ge (Nat.le_refl _)]; exact HR.out⟩
                    case measure => simp [intOf]; omega
                  · have HR : Hid (ans true true n (pr n t has ld tr) t x (i + 1) = (a + 1, 0)) := by
                      show _ = _
                      rw [H0.out, if_neg (fun hh => h7 (HY.out.symm.trans hh.2.2))]
                    have h8 : ((y : Int) != (x : Int)) = true := bne_iff_ne.2 (by omega)
                    have h9 : ((a : Int) + 1 == (n : Int)) = false := beq_eq_false_iff_ne.2 (by omega)
                    go_wp2_with fail
                    go_ret2
                    exact ⟨by rw [HR.out]; rfl, below_drewN HB.out _⟩
                · have HR : Hid (ans true true n (pr n t has ld tr) t x (i + 1) = (a + 1, 0)) := by
                    show _ = _
                    rw [H0.out, if_neg (fun hh => h6 hh.2.1)]
                  have h9 : ((a : Int) + 1 == (n : Int)) = true := beq_iff_eq.2 (by omega)
                  go_wp2_with fail
                  go_ret2
                  exact ⟨by rw [HR.out]; rfl, below_drewN HB.out _⟩
        · by_cases hx9 : x = 92
          · subst hx9
            have h8 : ((92 : Int) == (q : Int)) = false := beq_eq_false_iff_ne.2 (by omega)
            go_wp2_with fail
            refine (charStart_any T n c t cs has ld tr f a _ (HM.out.drewN m) hfa h hn).mono ?_
            rintro e w' ⟨rfl, m2, rfl⟩
            by_cases hw : a < wlk (pr n t has ld tr) a f
            · obtain ⟨ha1, hov⟩ := back_over (dbl := dbl) (n := n) (p := (pr n t has ld tr)) (t := t) (q := q) hfa hw
              have HR : Hid (ans true dbl n (pr n t has ld tr) t q (i + 1) = ans true dbl n (pr n t has ld tr) t q (wlk (pr n t has ld tr) (a + 1) (a - 1))) := HI.out.trans hov
              have hcs : cst (pr n t has ld tr) a f = (a : Int) - 1 := cst_lt rfl hw
              rw [hcs]
              clear hov hcs hw
              go_wp2_with fail
              go_roundw
              case rel => exact ⟨a + 1, a - 1, _, by simp, by congr 1; omega, by omega, by omega, rfl, HR.out⟩
              case measure => simp [intOf]; omega
            · have hwa := wlk_at hfa hw
              have hcs : cst (pr n t has ld tr) a f = (a : Int) := cst_ge hwa (Nat.lt_irrefl _)
              rw [hcs]
              have HR : Hid (ans true dbl n (pr n t has ld tr) t q (i + 1) = ans true dbl n (pr n t has ld tr) t q (a + 2)) := by
                show _ = _
                rw [HI.out, hwa, HLA.out, if_neg hxq, if_pos (Or.inl (by first | rfl | trivial))]
              clear hwa hcs hw
              go_wp2_with fail
              go_roundw
              case rel => exact ⟨a + 2, a + 2, _, by simp, by simp, Nat.le_refl _, by omega, rfl, by rw [wlk_ge (Nat.le_refl _)]; exact HR.out⟩
              case measure => simp [intOf]; omega
          · have HR : Hid (ans true dbl n (pr n t has ld tr) t q (i + 1) = ans true dbl n (pr n t has ld tr) t q (wlk (pr n t has ld tr) (a + 1) f)) := HI.out.trans (back_on hfa h (by rw [HX.out]; exact hxq) (by rw [HX.out]; exact hx9))
            have h8 : ((x : Int) == (q : Int)) = false := beq_eq_false_iff_ne.2 (by omega)
            have h9 : ((x : Int) == 92) = false := beq_eq_false_iff_ne.2 (by omega)
            go_wp2_with fail
            go_roundw
            case rel => exact ⟨a + 1, f, _, by simp, rfl, by omega, by omega, rfl, HR.out⟩
            case measure => simp [intOf]; omega
      · have HR : Hid (ans true dbl n (pr n t has ld tr) t q (i + 1) = (n, 1)) := by
          show _ = _
          rw [HI.out, ans_ge (Nat.le_trans (by omega) (wlk_le hfa))]
        go_wp2_with fail
        go_ret2
        exact ⟨by rw [HR.out]; rfl, below_drewN HB.out _⟩

end Go.Proofs.Qxb6609257a
