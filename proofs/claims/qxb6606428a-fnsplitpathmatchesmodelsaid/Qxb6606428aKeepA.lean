/-
  FnSplitPathKeepsCallersSlices: the leaves.
-/
import Derived.Test.Qxb6606428aZZ
namespace Go.Proofs.Qxb6606428a
open Go.RowKit
set_option linter.unusedVariables false
set_option linter.unusedSimpArgs false

def BoolPost (w : World) (e : Ending) (w' : World) : Prop := ∃ b : Bool, e = .returned (.bool b) ∧ w' = w

set_option maxRecDepth 100000 in
set_option maxHeartbeats 1600000 in
theorem bytes11_any (a0 : ByteArray) (a1 : Bool) (a2 : Int) (a3 a4 : Option Addr) (len3 cap3 len4 cap4 : Nat) (w : World) (w0 : a0.size ≤ maxLen) (w3 : len3 ≤ maxLen) (w4 : len4 ≤ maxLen) :
    Calls Try.prog 11 #[.string a0, .bool a1, .int .i64 a2, .slice a3 len3 cap3, .slice a4 len4 cap4] w (BoolPost w) := by
  unfold maxLen at w0 w3 w4
  by_cases h1 : 1048576 < a0.size
  · go_enter Try.func11, Try.ntmps11
    go_wp2
    go_ret
    exact ⟨_, rfl, rfl⟩
  · by_cases h2 : 1048576 < len3
    · go_enter Try.func11, Try.ntmps11
      go_wp2
      go_ret
      exact ⟨_, rfl, rfl⟩
    · by_cases h3 : 1048576 < a0.size + len3
      · go_enter Try.func11, Try.ntmps11
        go_wp2
        go_ret
        exact ⟨_, rfl, rfl⟩
      · by_cases h4 : 1048576 < len4
        · go_enter Try.func11, Try.ntmps11
          go_wp2
          go_ret
          exact ⟨_, rfl, rfl⟩
        · by_cases h5 : 1048576 < a0.size + len3 + len4
          · go_enter Try.func11, Try.ntmps11
            go_wp2
            go_ret
            exact ⟨_, rfl, rfl⟩
          · go_enter Try.func11, Try.ntmps11
            go_wp2
            go_ret
            exact ⟨_, rfl, rfl⟩

/-- What a slice of numbers reads as. -/
def RowAt (w : World) (k : IntKind) (a : Option Addr) (n : Nat) (f : Nat → Int) : Prop := ∀ i, i < n → ∃ g, a = some ⟨g, 0, none⟩ ∧ w.cell? ⟨g, i, none⟩ = some (.int k (f i))

theorem rowAt_own {w : World} {b : Nat} {e : TypeId} {a : Option Addr} {n c : Nat} {xs : List Value} {k : IntKind} {f : Nat → Int} (h : w.ownsRow b e 1 (.slice a n c) n xs) (hf : ∀ i, i < n → xs[i]? = some (.int k (f i))) : RowAt w k a n f := by
  intro i hi
  obtain ⟨a', c', hv, hs⟩ := own_shape h
  simp only [Value.slice.injEq, true_and] at hv
  obtain ⟨rfl, rfl⟩ := hv
  rcases hs with ⟨_, h0, _⟩ | ⟨g, rfl, _⟩
  · omega
  · refine ⟨g, rfl, ?_⟩
    have := h.cells rfl i _ (hf i hi)
    by_cases h0 : i = 0
    · subst h0; simpa [Addr.add] using this
    · simpa [Addr.add, h0] using this
theorem RowAt.ints {w : World} {b : Nat} {a : Option Addr} {c : Nat} {E : List Int} (h : w.ownsRow b 3 1 (.slice a E.length c) E.length (icells E)) : RowAt w .i64 a E.length (fun i => E.getD i 0) :=
  rowAt_own h fun i hi => by simp [icells, hi]
theorem RowAt.bytes {w : World} {b : Nat} {a : Option Addr} {c : Nat} {D : List UInt8} (h : w.ownsRow b 5 1 (.slice a D.length c) D.length (bcells D)) : RowAt w .u8 a D.length (fun i => ((D.getD i 0).toNat : Int)) :=
  rowAt_own h fun i hi => by simp [bcells, hi]
theorem RowAt.drewN {w : World} {k : IntKind} {a : Option Addr} {n : Nat} {f : Nat → Int} (h : RowAt w k a n f) (m : Nat) : RowAt (w.drewN m) k a n f := h

set_option maxRecDepth 100000 in
set_option maxHeartbeats 1600000 in
/-- sameBytes of two rows that hold the same. -/
theorem sameBytes_yes (a b : Option Addr) (ca cb n : Nat) (f : Nat → Int) (w : World) (hn : n ≤ 2097152) (ha : RowAt w .u8 a n f) (hb : RowAt w .u8 b n f) :
    Calls Try.prog 10 #[.slice a n ca, .slice b n cb] w fun e w' => e = .returned (.bool true) ∧ ∃ m, w' = w.drewN m := by
  have HA : Hid (RowAt w .u8 a n f ∧ RowAt w .u8 b n f) := ⟨ha, hb⟩
  clear ha hb
  go_enter Try.func10, Try.ntmps10
  go_wp2_with fail
  go_loopw [5] (fun iv wr => ∃ (i m : Nat), iv = .int .i64 i ∧ i ≤ n ∧ wr = w.drewN m) (fun iv _ => n - (intOf iv).toNat)
  case atStart => exact ⟨0, 0, rfl, Nat.zero_le _, rfl⟩
  case round =>
    obtain ⟨i, m, rfl, hi, rfl⟩ := hrel
    by_cases h : i < n
    · obtain ⟨g1, rfl, c1⟩ := HA.out.1 i h
      obtain ⟨g2, rfl, c2⟩ := HA.out.2 i h
      go_wp2_with fail
      go_quiet (fail)
      go_wp2_with fail
      go_roundw
      case rel => exact ⟨i + 1, _, by simp, h, rfl⟩
      case measure => simp [intOf]; omega
    · go_wp2_with fail
      go_ret
      exact ⟨rfl, m, rfl⟩

end Go.Proofs.Qxb6606428a
