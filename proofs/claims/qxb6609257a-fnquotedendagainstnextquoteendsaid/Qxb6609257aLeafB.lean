/-
  zzBytes of the other two laws.
-/
import Derived.Test.Qxb6609257aLeafA
namespace Go.Proofs.Qxb6609257a
open Go.RowKit
set_option linter.unusedVariables false
set_option linter.unusedSimpArgs false

set_option maxRecDepth 100000 in
set_option maxHeartbeats 1600000 in
theorem bytes12_any (a : Option Addr) (n c : Nat) (i : Int) (b1 b2 : Bool) (F S : Array Value) (w : World) (hn : n ≤ 9223372036854775807) (hF : F.size = 256) (hS : S.size = 256) :
    Calls Try.prog 12 #[.slice a n c, .int .i64 i, .bool b1, .bool b2, .agg F, .agg S] w (BoolPost w) := by
  by_cases h1 : 1048576 < n
  · go_enter Try.func12, Try.ntmps12
    go_wp2
    go_ret
    exact ⟨_, rfl, ((Below.refl _ _).alloc (Nat.le_refl _) _).alloc (by simp) _⟩
  · go_enter Try.func12, Try.ntmps12
    go_wp2
    go_ret
    exact ⟨_, rfl, ((Below.refl _ _).alloc (Nat.le_refl _) _).alloc (by simp) _⟩

set_option maxRecDepth 100000 in
set_option maxHeartbeats 1600000 in
theorem bytes14_any (a : Option Addr) (n c : Nat) (i : Int) (b1 b2 : Bool) (F S : Array Value) (w : World) (hn : n ≤ 9223372036854775807) (hF : F.size = 256) (hS : S.size = 256) :
    Calls Try.prog 14 #[.slice a n c, .int .i64 i, .bool b1, .bool b2, .agg F, .agg S] w (BoolPost w) := by
  by_cases h1 : 1048576 < n
  · go_enter Try.func14, Try.ntmps14
    go_wp2
    go_ret
    exact ⟨_, rfl, ((Below.refl _ _).alloc (Nat.le_refl _) _).alloc (by simp) _⟩
  · go_enter Try.func14, Try.ntmps14
    go_wp2
    go_ret
    exact ⟨_, rfl, ((Below.refl _ _).alloc (Nat.le_refl _) _).alloc (by simp) _⟩

end Go.Proofs.Qxb6609257a
