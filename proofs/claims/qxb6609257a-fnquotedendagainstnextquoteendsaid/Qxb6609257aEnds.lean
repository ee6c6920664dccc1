/-
  doubledEnd.
-/
import Derived.Test.Qxb6609257aIdx
namespace Go.Proofs.Qxb6609257a
open Go.RowKit
set_option linter.unusedVariables false
set_option linter.unusedSimpArgs false

def TPost (r : Nat × Nat) (w : World) (e : Ending) (w' : World) : Prop := e = .returned (.tuple #[.int .i64 (r.1 : Int), .int .u8 (r.2 : Int)]) ∧ ∃ m, w' = w.drewN m
def DRel (n : Nat) (p : Nat → Bool) (t : Nat → Nat) (q f : Nat) (w : World) (iv : Value) (wr : World) : Prop := ∃ j m : Nat, iv = .int .i64 j ∧ j ≤ n ∧ wr = w.drewN m ∧ Hid (ans false true n p t q f = ans false true n p t q j)

set_option maxRecDepth 100000 in
set_option maxHeartbeats 3200000 in
theorem doubledEnd_any (T n c : Nat) (t : Nat → Nat) (cs : Option Addr) (has : Bool) (ld tr : Nat → Bool) (f q : Nat) (w : World) (hm : Mem w T n t cs has ld tr) (hf : f ≤ n) (hn : n ≤ 1048576) (hc : n ≤ c ∧ c ≤ 9223372036854775807) (hq : q < 256) :
    Calls Try.prog 18 #[.slice (some ⟨T, 0, none⟩) n c, .int .i64 (f : Int), .int .u8 (q : Int), .pointer cs] w (TPost (ans false true n (pr n t has ld tr) t q f) w) := by
  have HM : Hid (Mem w T n t cs has ld tr) := hm
  clear hm
  go_enter Try.func18, Try.ntmps18
  go_wp2_with fail
  go_loopw [1] (fun iv wr => DRel n (pr n t has ld tr) t q f w iv wr) (fun iv _ => n - (intOf iv).toNat)
  case atStart => exact ⟨f, 0, rfl, hf, rfl, rfl⟩
  case round =>
    obtain ⟨j, m, rfl, hj, rfl, HI⟩ := hrel
    go_wp2_with fail
    refine (indexByte_any T n c t cs has ld tr j q _ (HM.out.drewN m) hj hn hc hq).mono ?_
    rintro e w' ⟨rfl, m2, rfl⟩
    rcases ans_doubled (n := n) (p := pr n t has ld tr) (t := t) (q := q) n j (by omega) with ⟨h1, h2⟩ | ⟨a, h1, h2, h3, h4, h5⟩
    · have HR : Hid (ans false true n (pr n t has ld tr) t q f = (n, 1)) := HI.out.trans h2
      rw [h1]
      clear h1 h2
      go_wp2_with fail
      go_ret2
      exact ⟨by rw [HR.out]; rfl, _, rfl⟩
    · rw [h1]
      have H5 : Hid (ans false true n (pr n t has ld tr) t q f = if a + 1 < n ∧ t (a + 1) = q then ans false true n (pr n t has ld tr) t q (a + 2) else (a + 1, 0)) := HI.out.trans h5
      clear h1 h4 h5
      by_cases h6 : a + 1 < n
      · have c1 := HM.out.txt (a + 1) h6
        obtain ⟨x, hx⟩ : ∃ x, t (a + 1) = x := ⟨_, rfl⟩
        have HX : Hid (t (a + 1) = x) := hx
        rw [hx] at c1
        clear hx
        by_cases h7 : x = q
        · have HR : Hid (ans false true n (pr n t has ld tr) t q f = ans false true n (pr n t has ld tr) t q (a + 2)) := by
            show _ = _
            rw [H5.out, if_pos ⟨h6, by rw [HX.out]; exact h7⟩]
          subst h7
          go_wp2_with fail
          go_roundw
          case rel => exact ⟨a + 2, _, by simp; omega, by omega, rfl, HR.out⟩
          case measure => simp [intOf]; omega
        · have HR : Hid (ans false true n (pr n t has ld tr) t q f = (a + 1, 0)) := by
            show _ = _
            rw [H5.out, if_neg (fun h => h7 (HX.out.symm.trans h.2))]
          have h8 : ((x : Int) != (q : Int)) = true := bne_iff_ne.2 (by omega)
          go_wp2_with fail
          go_ret2
          exact ⟨by rw [HR.out]; rfl, _, rfl⟩
      · have HR : Hid (ans false true n (pr n t has ld tr) t q f = (a + 1, 0)) := by
          show _ = _
          rw [H5.out, if_neg (fun h => h6 h.1)]
        go_wp2_with fail
        go_ret2
        exact ⟨by rw [HR.out]; rfl, _, rfl⟩

end Go.Proofs.Qxb6609257a
