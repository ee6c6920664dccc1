/-
  Whether one coverage grants an action on every object.
-/
import Derived.Test.Qxb6606306aRRHold
namespace Go.Proofs.Qxb6606306aRR
open Go.RowKit
set_option linter.unusedVariables false
set_option linter.unusedSimpArgs false

def CovPost (w : World) (x : Bool) (e : Ending) (w' : World) : Prop := e = .returned (.bool x) ∧ Below w.heap.size w w'

theorem index85_0 (a b : Value) (w : World) : (Instr.index 85 (.agg #[a, b]) (.int .i64 0)).run Try.prog w = .ok a w := by kernel_rfl
theorem index85_1 (a b : Value) (w : World) : (Instr.index 85 (.agg #[a, b]) (.int .i64 1)).run Try.prog w = .ok b w := by kernel_rfl

set_option maxRecDepth 100000 in
set_option maxHeartbeats 1600000 in
theorem covers_no (C M : Nat) (v g : ByteArray) (rs : List ByteArray) (r : ByteArray) (b : Bool) (nm : ByteArray) (w : World) (hc : w.cell? ⟨C, 1, none⟩ = some (.map (some M))) (ha : Acts w M v g rs) (hr : ¬ (r ∈ rs ∧ b = true)) :
    Calls Try.prog 39 #[.pointer (some ⟨C, 0, none⟩), .string v, .string g, .agg #[.string r, .bool b], .string nm, .bool false] w (CovPost w false) := by
  have HA : Hid (Acts w M v g rs) := ha
  have HC : Hid (w.cell? ⟨C, 1, none⟩ = some (.map (some M))) := hc
  clear ha hc
  go_enter Try.func39, Try.ntmps39
  go_wp2
  go_loopw [20] (fun i wr => ∃ k : Nat, k ≤ 2 ∧ i = .int .i64 k ∧ Below (w.heap.size + 1) (w.alloc (.cells #[.string r, .bool b] 56)) wr) (fun i _ => 2 - (intOf i).toNat)
  case atStart => exact ⟨0, by omega, rfl, Below.refl _ _⟩
  case round =>
    obtain ⟨k, hk, rfl, hb⟩ := hrel
    have HB : Hid (Below (w.heap.size + 1) (w.alloc (.cells #[.string r, .bool b] 56)) wr) := hb
    clear hb
    by_cases hk2 : k < 2
    · obtain ⟨v0, hv0⟩ : ∃ v0 : ByteArray, ∀ W, (Instr.index 85 (.agg #[.string v, .string { data := #[42] }]) (.int .i64 k)).run Try.prog W = .ok (.string v0) W := by
        rcases (show k = 0 ∨ k = 1 by omega) with rfl | rfl
        · exact ⟨v, fun W => index85_0 _ _ W⟩
        · exact ⟨_, fun W => index85_1 _ _ W⟩
      have hd : decide ((k : Int) < 2) = true := decide_eq_true (by omega)
      go_wp2
      go_loopw [25] (fun i wr => ∃ k : Nat, k ≤ 2 ∧ i = .int .i64 k ∧ Below (w.heap.size + 1) (w.alloc (.cells #[.string r, .bool b] 56)) wr) (fun i _ => 2 - (intOf i).toNat)
      case atStart => exact ⟨0, by omega, rfl, HB.out⟩
      case round =>
        clear HB
        obtain ⟨j, hj, rfl, hb⟩ := hrel
        have HB : Hid (Below (w.heap.size + 1) (w.alloc (.cells #[.string r, .bool b] 56)) wr) := hb
        clear hb
        by_cases hj2 : j < 2
        · obtain ⟨g0, hg0⟩ : ∃ g0 : ByteArray, ∀ W, (Instr.index 85 (.agg #[.string g, .string { data := #[42] }]) (.int .i64 j)).run Try.prog W = .ok (.string g0) W := by
            rcases (show j = 0 ∨ j = 1 by omega) with rfl | rfl
            · exact ⟨g, fun W => index85_0 _ _ W⟩
            · exact ⟨_, fun W => index85_1 _ _ W⟩
          have hdj : decide ((j : Int) < 2) = true := decide_eq_true (by omega)
          have hsz := HA.out.lt
          have hCz : C < w.heap.size := World.block_lt_of_cell? w ⟨C, 1, none⟩ HC.out
          have hrz : w.heap.size + 1 ≤ wr.heap.size := by have := HB.out.size; simpa using this
          have c1 : wr.cell? ⟨C, 1, none⟩ = some (.map (some M)) := (HB.out.cell (p := ⟨C, 1, none⟩) (by simp; omega)).trans (cell_alloc _ HC.out)
          have k0 : wr.cell? ⟨w.heap.size, 0, none⟩ = some (.string r) := (HB.out.cell (p := ⟨w.heap.size, 0, none⟩) (by simp)).trans (by simp)
          have k1 : wr.cell? ⟨w.heap.size, 1, none⟩ = some (.bool b) := (HB.out.cell (p := ⟨w.heap.size, 1, none⟩) (by simp)).trans (by simp)
          have c1a : ∀ o, (wr.alloc o).cell? ⟨C, 1, none⟩ = some (.map (some M)) := fun o => cell_alloc o c1
          have k0a : ∀ o, (wr.alloc o).cell? ⟨w.heap.size, 0, none⟩ = some (.string r) := fun o => cell_alloc o k0
          have k1a : ∀ o, (wr.alloc o).cell? ⟨w.heap.size, 1, none⟩ = some (.bool b) := fun o => cell_alloc o k1
          have hact : Acts wr M v g rs := (HA.out.alloc _).kept (HB.out.block M (by omega))
          have hl : (Instr.lookup 67 (.map (some M)) (.agg #[.string v0, .string g0, .string r, .bool b]) false).run Try.prog wr.drew = .ok (.agg #[.bool false, .map none]) wr.drew :=
            look_no hact.drew (fun h => hr ⟨h.2.2.1, h.2.2.2⟩)
          have hl2 : (Instr.lookup 67 (.map (some M)) (.agg #[.string v0, .string g0, .string r, .bool b]) false).run Try.prog (wr.alloc (.cells #[.bool false, .map none] 88)).drew = .ok (.agg #[.bool false, .map none]) (wr.alloc (.cells #[.bool false, .map none] 88)).drew :=
            look_no (hact.alloc _).drew (fun h => hr ⟨h.2.2.1, h.2.2.2⟩)
          clear hact
          go_wp2
          go_region
          all_goals go_wp2
          all_goals
            go_roundw
            case rel => exact ⟨j + 1, by omega, by go_num, (HB.out.alloc hrz _).drew⟩
            case measure => simp [intOf]; omega
        · go_wp2
          go_roundw
          case rel => exact ⟨k + 1, by omega, by go_num, HB.out⟩
          case measure => simp [intOf]; omega
    · go_wp2
      go_ret
      exact ⟨rfl, ((Below.refl _ _).alloc (Nat.le_refl _) _).trans (HB.out.mono (by omega))⟩

set_option maxRecDepth 100000 in
set_option maxHeartbeats 1600000 in
theorem covers_yes (C M : Nat) (v g : ByteArray) (rs : List ByteArray) (r : ByteArray) (nm : ByteArray) (w : World) (hc : w.cell? ⟨C, 1, none⟩ = some (.map (some M))) (ha : Acts w M v g rs) (hr : r ∈ rs) :
    Calls Try.prog 39 #[.pointer (some ⟨C, 0, none⟩), .string v, .string g, .agg #[.string r, .bool true], .string nm, .bool false] w (CovPost w true) := by
  have hi1 := fun W => index85_0 (.string v) (.string { data := #[42] }) W
  have hi2 := fun W => index85_0 (.string g) (.string { data := #[42] }) W
  have c1a : ∀ o, (w.alloc o).cell? ⟨C, 1, none⟩ = some (.map (some M)) := fun o => cell_alloc o hc
  have c1b : ∀ o o', ((w.alloc o).alloc o').cell? ⟨C, 1, none⟩ = some (.map (some M)) := fun o o' => cell_alloc o' (c1a o)
  have hl : (Instr.lookup 67 (.map (some M)) (.agg #[.string v, .string g, .string r, .bool true]) false).run Try.prog (w.alloc (.cells #[.string r, .bool true] 56)).drew = .ok (.agg #[.bool true, .map none]) (w.alloc (.cells #[.string r, .bool true] 56)).drew :=
    look_yes (ha.alloc _).drew hr
  have hl2 : (Instr.lookup 67 (.map (some M)) (.agg #[.string v, .string g, .string r, .bool true]) false).run Try.prog ((w.alloc (.cells #[.string r, .bool true] 56)).alloc (.cells #[.bool false, .map none] 88)).drew = .ok (.agg #[.bool true, .map none]) ((w.alloc (.cells #[.string r, .bool true] 56)).alloc (.cells #[.bool false, .map none] 88)).drew :=
    look_yes ((ha.alloc _).alloc _).drew hr
  clear ha hc
  go_enter Try.func39, Try.ntmps39
  go_wp2
  refine wp_loop_rounds 1 ?_
  rw [rounds_succ]
  go_wp2
  refine wp_loop_rounds 1 ?_
  rw [rounds_succ]
  go_wp2
  go_region
  all_goals
    go_wp2
    go_ret
    exact ⟨rfl, (((Below.refl _ _).alloc (Nat.le_refl _) _).alloc (by simp) _).drew⟩

end Go.Proofs.Qxb6606306aRR
