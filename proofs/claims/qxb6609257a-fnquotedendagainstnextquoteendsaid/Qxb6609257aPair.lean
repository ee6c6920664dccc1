/-
  pair: a byte that leads and a byte that trails.
-/
import Derived.Test.Qxb6609257aLeafA
namespace Go.Proofs.Qxb6609257a
open Go.RowKit
set_option linter.unusedVariables false
set_option linter.unusedSimpArgs false

/-- The text, the charset and its tables, as the walks read them. -/
structure Mem (w : World) (T n : Nat) (t : Nat → Nat) (cs : Option Addr) (has : Bool) (ld tr : Nat → Bool) : Prop where
  txt : ∀ k, k < n → w.cell? ⟨T, k, none⟩ = some (.int .u8 (t k : Int))
  byte : ∀ k, t k < 256
  cs : (has = false ∧ cs = none) ∨ (has = true ∧ ∃ g, cs = some ⟨g, 0, none⟩ ∧ (∀ k, k < 256 → w.cell? ⟨g, 1 + k, none⟩ = some (.bool (ld k))) ∧ ∀ k, k < 256 → w.cell? ⟨g, 257 + k, none⟩ = some (.bool (tr k)))

theorem Mem.drewN {w : World} {T n : Nat} {t : Nat → Nat} {cs : Option Addr} {has : Bool} {ld tr : Nat → Bool} (h : Mem w T n t cs has ld tr) (m : Nat) : Mem (w.drewN m) T n t cs has ld tr := ⟨h.txt, h.byte, h.cs⟩

/-- At place k lies a pair. -/
def pr (n : Nat) (t : Nat → Nat) (has : Bool) (ld tr : Nat → Bool) (k : Nat) : Bool := has && ld (t k) && decide (k + 1 < n) && tr (t (k + 1))

def RPost (v : Value) (w : World) (e : Ending) (w' : World) : Prop := e = .returned v ∧ ∃ m, w' = w.drewN m

set_option maxRecDepth 100000 in
set_option maxHeartbeats 3200000 in
theorem pair_any (T n c : Nat) (t : Nat → Nat) (cs : Option Addr) (has : Bool) (ld tr : Nat → Bool) (k : Nat) (w : World) (hm : Mem w T n t cs has ld tr) (hk : k < n) (hn : n ≤ 1048576) :
    Calls Try.prog 22 #[.pointer cs, .slice (some ⟨T, 0, none⟩) n c, .int .i64 (k : Int)] w (RPost (.bool (pr n t has ld tr k)) w) := by
  rcases hm.cs with ⟨rfl, rfl⟩ | ⟨rfl, g, rfl, hl, ht⟩
  · clear hm
    go_enter Try.func22, Try.ntmps22
    go_wp2_with fail
    go_quiet (fail)
    go_wp2_with fail
    go_ret
    exact ⟨by simp [pr], _, rfl⟩
  · have c1 := hm.txt k hk
    have b1 := hm.byte k
    have c2 := hl (t k) b1
    obtain ⟨x, hx⟩ : ∃ x, t k = x := ⟨_, rfl⟩
    have HX : Hid (t k = x) := hx
    rw [hx] at c1 c2 b1
    have i1 : (k : Int) < (n : Int) := by omega
    have i2 : (x : Int) < 256 := by omega
    have i3 : (0 : Int) ≤ (x : Int) := by omega
    by_cases h1 : ld x = true
    · rw [h1] at c2
      by_cases h2 : k + 1 < n
      · have c3 := hm.txt (k + 1) h2
        have b3 := hm.byte (k + 1)
        have c4 := ht (t (k + 1)) b3
        obtain ⟨y, hy⟩ : ∃ y, t (k + 1) = y := ⟨_, rfl⟩
        have HY : Hid (t (k + 1) = y) := hy
        rw [hy] at c3 c4 b3
        have j1 : (k : Int) + 1 < (n : Int) := by omega
        have j2 : (y : Int) < 256 := by omega
        have j3 : (0 : Int) ≤ (y : Int) := by omega
        have HR : Hid (pr n t true ld tr k = tr y) := by
          show _ = _
          unfold pr
          rw [HX.out, HY.out, h1, decide_eq_true h2]; rfl
        obtain ⟨b, hb⟩ : ∃ b, tr y = b := ⟨_, rfl⟩
        rw [hb] at c4 HR
        clear hl ht hm hx hy h1 hb
        go_enter Try.func22, Try.ntmps22
        go_wp2_with fail
        go_quiet (fail)
        go_wp2_with fail
        go_ret
        exact ⟨by rw [HR.out]; rfl, _, rfl⟩
      · have HR : Hid (pr n t true ld tr k = false) := by
          show _ = _
          unfold pr
          rw [decide_eq_false h2]; simp
        have j1 : decide ((k : Int) + 1 < (n : Int)) = false := decide_eq_false (by omega)
        clear hl ht hm hx h1
        go_enter Try.func22, Try.ntmps22
        go_wp2_with fail
        go_quiet (fail)
        go_wp2_with fail
        go_ret
        exact ⟨by rw [HR.out]; rfl, _, rfl⟩
    · have h1' : ld x = false := by simpa using h1
      rw [h1'] at c2
      have HM : Hid (Mem w T n t (some ⟨g, 0, none⟩) true ld tr) := hm
      clear hl ht h1 hm hx
      go_enter Try.func22, Try.ntmps22
      go_wp2_with fail
      go_quiet (fail)
      go_wp2_with fail
      go_ret
      exact ⟨by simp [pr, HX.out, h1'], _, rfl⟩

end Go.Proofs.Qxb6609257a
