/-
  The decoder made; the reader made; the law's walk in its main case.
-/
import Derived.Test.Qxb6605573aDecC
import Derived.Test.Qxb6605573aValue
import Derived.OpenShut
namespace Go.Proofs.Qxb6605573a
open Go.RowKit
set_option linter.unusedVariables false
set_option linter.unusedSimpArgs false

theorem newDec_any (s : Value) (a : Option Addr) (n c : Nat) (hs : s = .slice a n c) (pos : Int) (b : Bool) (sc : Int) (w : World) :
    Calls Try.prog 15 #[s, .int .i64 pos, .bool b, .int .i64 sc] w fun e w' => e = .returned (.pointer (some ⟨w.heap.size, 0, none⟩)) ∧ w' = w.alloc (.cells #[s, .int .i64 pos, .bool b, .slice none 0 0, .int .i64 sc] 46) := by
  subst hs
  go_enter Try.func15, Try.ntmps15
  go_wp2
  go_ret
  exact ⟨rfl, rfl⟩

theorem zzEnd_any (T n D : Nat) (t : Nat → Int) (esc : Bool) (p r : Nat) (w : World) (hd : Dec w T n D t esc) (hv : Val t n p r) (hend : t p ≠ 34 → t p ≠ 123 → t p ≠ 91 → r < n → isDelim (t r) = true) :
    Calls Try.prog 16 #[.pointer (some ⟨D, 0, none⟩), .int .i64 p] w fun e w' => e = .returned (.int .i64 r) ∧ w' = w := by
  go_enter Try.func16, Try.ntmps16
  go_wp2_with fail
  refine (end_any T n D t esc p r w hd hv hend).mono ?_
  rintro e w' ⟨rfl, rfl⟩
  go_wp2_with fail
  go_ret
  exact ⟨rfl, rfl⟩

theorem scan_new {w : World} {T n : Nat} {t : Nat → Int} (hT : T < w.heap.size) (h : Txt w T n t) :
    Scan (w.alloc (.cells #[.slice (some ⟨T, 0, none⟩) n n, .slice none 0 0, .slice none 0 0, .int .i64 0] 30)) T n w.heap.size t none 0 0 none 0 0 0 :=
  ⟨hT, h.of_block (Below.heap_alloc w _ T hT), heap_alloc_new w _, ⟨[], World.ownsRow_nil _ _ _ _⟩, ⟨[], World.ownsRow_nil _ _ _ _⟩, fun k e => by simp [Value.ownBlock] at e⟩

/-- Where the decoder is told that there are no escapes, the text holds no backslash. -/
def Esc (esc : Bool) (t : Nat → Int) (n : Nat) : Prop := esc = false → ∀ j, j < n → t j ≠ 92

theorem dec_new {w : World} {T n : Nat} {t : Nat → Int} {esc : Bool} {pos sc : Int} (hT : T < w.heap.size) (h : Txt w T n t) (hb : ∀ j, 0 ≤ t j ∧ t j ≤ 255) (hn : n ≤ 1048576) (hp : Esc esc t n) :
    Dec (w.alloc (.cells #[.slice (some ⟨T, 0, none⟩) n n, .int .i64 pos, .bool esc, .slice none 0 0, .int .i64 sc] 46)) T n w.heap.size t esc := by
  refine ⟨h.of_block (Below.heap_alloc w _ T hT), ?_, ?_, hb, hn, hp⟩
  · rw [cell_of_row _ w.heap.size 0 _ 46 (0, 0) (heap_alloc_new w _)]; rfl
  · rw [cell_of_row _ w.heap.size 2 _ 46 (0, 0) (heap_alloc_new w _)]; rfl

set_option maxRecDepth 100000 in
set_option maxHeartbeats 3200000 in
theorem main_any (x : Addr) (n c : Nat) (zs : List Int) (pos : Int) (esc : Bool) (sc : Int) (p : Nat) (w : World) (hn : n ≤ 1048576) (hnz : n ≤ zs.length) (hp : p < n)
    (hcell : ∀ i, i < zs.length → w.cell? (x.add i) = some (.int .u8 (zs.getD i 0))) (hwf : ∀ z ∈ zs, (Lit.int .u8 z).wf = true) :
    Calls Try.prog 4 #[.slice (some x) n c, .int .i64 pos, .bool esc, .int .i64 sc, .int .i64 p] w fun e w' => e = .returned (.bool true) ∧ Below w.heap.size w w' := by
  have HC : Hid ((∀ i, i < zs.length → w.cell? (x.add i) = some (.int .u8 (zs.getD i 0))) ∧ ∀ z ∈ zs, (Lit.int .u8 z).wf = true) := ⟨hcell, hwf⟩
  clear hcell hwf
  obtain ⟨t, ht⟩ : ∃ t : Nat → Int, t = fun j => zs.getD j 0 := ⟨_, rfl⟩
  have HT : Hid (t = fun j => zs.getD j 0) := ht
  clear ht
  have HB : Hid (∀ j, 0 ≤ t j ∧ t j ≤ 255) := by
    intro j
    rw [HT.out]
    show 0 ≤ zs.getD j 0 ∧ zs.getD j 0 ≤ 255
    rw [List.getD_eq_getElem?_getD]
    cases h : zs[j]? with
    | none => simp
    | some z => exact bounds_u8 (HC.out.2 z (List.mem_of_getElem? h))
  go_enter Try.func4, Try.ntmps4
  go_wp2_with (go_at_call 11; refine (bytes_any _ _ _ _ _ _ _ _ (by unfold maxLen; omega)).mono ?_; rintro e w' ⟨rfl, rfl⟩)
  refine (clone_any x n c zs _ hn hnz HC.out.1).mono ?_
  rintro e w1 ⟨rfl, htx, hsz, hbel⟩
  rw [← HT.out] at htx
  have HXB : Hid (Below w'.heap.size w' w1) := hbel
  obtain ⟨T, hT⟩ : ∃ T, T = w'.heap.size := ⟨_, rfl⟩
  rw [← hT] at htx hsz ⊢
  have HX : Hid (Txt w1 T n t) := htx
  have hTe : Hid (T = w'.heap.size) := hT
  clear hT htx hbel HC HT
  by_cases hh : esc = false ∧ hasB t n = true
  · obtain ⟨rfl, hh⟩ := hh
    go_wp2_with (go_at_call 12; refine (hasBackslash_any T n t _ hn HX.out).mono ?_; rintro e w2 ⟨rfl, hw2⟩; obtain rfl := hw2.symm)
    go_ret
    exact ⟨rfl, HXB.out⟩
  · have HP : Hid (Esc esc t n) := fun he => hasB_out (by simpa [he] using hh)
    have S0 := scan_new hsz HX.out
    have HS : Hid (Scan (w1.alloc (.cells #[.slice (some ⟨T, 0, none⟩) n n, .slice none 0 0, .slice none 0 0, .int .i64 0] 30)) T n w1.heap.size t none 0 0 none 0 0 0) := S0
    clear S0
    cases esc
    case' false => have hh' : hasB t n = false := by simpa using hh
    all_goals
      clear hh
      go_wp2_with (go_at_call 12; refine (hasBackslash_any T n t _ hn HX.out).mono ?_; rintro e w2 ⟨rfl, hw2⟩; obtain rfl := hw2.symm)
      refine (value_all T n w1.heap.size t hn n p (by omega) (by omega) _ none 0 none 0 0 0 HS.out (Nat.zero_le _)).mono ?_
      rintro e w3 ⟨r, rfl, hb3, hres⟩
      have HB3 : Hid (Below w'.heap.size w' w3) := (HXB.out.alloc (by have := hTe.out; omega) _).trans (hb3.mono (by have := hTe.out; omega))
      clear hb3
      rcases hres with rfl | ⟨q, rfl, hval, a1, c1, a2, c2, l', ar', hs3, _, _⟩
      · go_wp2_with fail
        go_ret
        exact ⟨rfl, HB3.out⟩
      · have htp := hs3.txt p hp
        have hq1 := hval.lt
        have hq2 := hval.le
        have HV : Hid (Val t n p q) := hval
        have HS3 : Hid (Scan w3 T n w1.heap.size t a1 l' c1 a2 l' c2 ar') := hs3
        have hT3 : T < w3.heap.size := by have := hs3.lt; omega
        clear hval hs3 HS HX
        by_cases hF : t p ≠ 34 ∧ t p ≠ 123 ∧ t p ≠ 91 ∧ q < n ∧ isDelim (t q) = false
        · obtain ⟨f1, f2, f3, f4, f5⟩ := hF
          have htq := HS3.out.txt q f4
          have g1 : (t p != 34) = true := by simpa using f1
          have g2 : (t p != 123) = true := by simpa using f2
          have g3 : (t p != 91) = true := by simpa using f3
          clear f1 f2 f3
          go_wp2_with (go_at_call 14; refine (isDelim_any _ _).mono ?_; rintro e w4 ⟨rfl, hw4⟩; obtain rfl := hw4.symm)
          go_ret
          exact ⟨rfl, HB3.out⟩
        · have HE : Hid (t p ≠ 34 → t p ≠ 123 → t p ≠ 91 → q < n → isDelim (t q) = true) := by
            intro f1 f2 f3 f4
            cases h : isDelim (t q) with
            | true => rfl
            | false => exact absurd ⟨f1, f2, f3, f4, h⟩ hF
          clear hF
          have hc : ((t p != 34) = false) ∨ ((t p != 34) = true ∧ (t p != 123) = false) ∨ ((t p != 34) = true ∧ (t p != 123) = true ∧ (t p != 91) = false) ∨
              ((t p != 34) = true ∧ (t p != 123) = true ∧ (t p != 91) = true ∧ n ≤ q) ∨ ((t p != 34) = true ∧ (t p != 123) = true ∧ (t p != 91) = true ∧ q < n ∧ isDelim (t q) = true) := by
            by_cases f1 : t p = 34
            · exact .inl (by simpa using f1)
            by_cases f2 : t p = 123
            · exact .inr (.inl ⟨by simpa using f1, by simpa using f2⟩)
            by_cases f3 : t p = 91
            · exact .inr (.inr (.inl ⟨by simpa using f1, by simpa using f2, by simpa using f3⟩))
            by_cases f4 : q < n
            · exact .inr (.inr (.inr (.inr ⟨by simpa using f1, by simpa using f2, by simpa using f3, f4, HE.out f1 f2 f3 f4⟩)))
            · exact .inr (.inr (.inr (.inl ⟨by simpa using f1, by simpa using f2, by simpa using f3, by omega⟩)))
          have htq : q < n → w3.cell? ⟨T, q, none⟩ = some (.int .u8 (t q)) := fun h => HS3.out.txt q h
          rcases hc with g1 | ⟨g1, g2⟩ | ⟨g1, g2, g3⟩ | ⟨g1, g2, g3, g4⟩ | ⟨g1, g2, g3, g4, g5⟩
          case' inr.inr.inr.inr => have htq' := htq g4
          all_goals
            clear htq
            go_wp2_with (go_at_call 14; refine (isDelim_any _ _).mono ?_; rintro e w4 ⟨rfl, hw4⟩; obtain rfl := hw4.symm)
            refine (newDec_any _ _ _ _ rfl _ _ _ _).mono ?_
            rintro e w5 ⟨rfl, rfl⟩
            go_wp2_with fail
            refine (zzEnd_any T n w3.heap.size t _ p q _ (dec_new hT3 HS3.out.txt HB.out hn HP.out) HV.out HE.out).mono ?_
            rintro e w6 ⟨rfl, rfl⟩
            go_wp2_with fail
            go_ret
            exact ⟨ret_bool (by simp), HB3.out.alloc (by have := hTe.out; omega) _⟩

end Go.Proofs.Qxb6605573a
