/-
  The coverage takes one action more.
-/
import Derived.Test.Qxb6606306aRRMapB
namespace Go.Proofs.Qxb6606306aRR
open Go.RowKit
set_option linter.unusedVariables false
set_option linter.unusedSimpArgs false

theorem Acts.alloc {w : World} {M : Nat} {v g : ByteArray} {rs : List ByteArray} (h : Acts w M v g rs) (o : Obj) : Acts (w.alloc o) M v g rs := h.kept (Below.heap_alloc w o M h.lt)
theorem Acts.drew {w : World} {M : Nat} {v g : ByteArray} {rs : List ByteArray} (h : Acts w M v g rs) : Acts w.drew M v g rs := h.kept rfl

theorem grown_pre {w w2 w1 : World} {row : Option Nat} (h : Below w.heap.size w w2) (g : w2.grownBy w1 row) : w.grownBy w1 row :=
  ⟨g.os.trans h.os, g.tape.trans h.tape, g.output.trans h.output, Nat.le_trans h.size g.size, fun k hk hne => (g.block k (Nat.lt_of_lt_of_le hk h.size) hne).trans (h.block k hk)⟩
theorem cell_alloc {w : World} {a : Addr} {x : Value} (o : Obj) (h : w.cell? a = some x) : (w.alloc o).cell? a = some x :=
  (World.cell?_of_block (Below.heap_alloc w o a.block (World.block_lt_of_cell? w a h))).trans h

set_option maxRecDepth 100000 in
set_option maxHeartbeats 1600000 in
theorem hold_new (C M : Nat) (v g r : ByteArray) (rs : List ByteArray) (w : World) (hc : w.cell? ⟨C, 1, none⟩ = some (.map (some M))) (ha : Acts w M v g rs) (hr : r ∉ rs) :
    Calls Try.prog 42 #[.pointer (some ⟨C, 0, none⟩), actKey v g r true, .slice none 0 0] w fun e w' => e = .returned (.tuple #[]) ∧ Acts w' M v g (r :: rs) ∧ w.grownBy w' (some M) := by
  have HA : Hid (Acts w M v g rs) := ha
  have hl : (Instr.lookup 67 (.map (some M)) (.agg #[.string v, .string g, .string r, .bool true]) false).run Try.prog (w.alloc (.cells #[.string v, .string g, .string r, .bool true] 83)).drew = .ok (.agg #[.bool false, .map none]) (w.alloc (.cells #[.string v, .string g, .string r, .bool true] 83)).drew :=
    look_no (ha.alloc _).drew (fun h => hr h.2.2.1)
  have hl2 : (Instr.lookup 67 (.map (some M)) (.agg #[.string v, .string g, .string r, .bool true]) false).run Try.prog ((w.alloc (.cells #[.string v, .string g, .string r, .bool true] 83)).alloc (.cells #[.bool false, .map none] 88)).drew = .ok (.agg #[.bool false, .map none]) ((w.alloc (.cells #[.string v, .string g, .string r, .bool true] 83)).alloc (.cells #[.bool false, .map none] 88)).drew :=
    look_no ((ha.alloc _).alloc _).drew (fun h => hr h.2.2.1)
  clear ha
  have hA : ∀ o, (w.alloc o).cell? ⟨C, 1, none⟩ = some (.map (some M)) := fun o => cell_alloc o hc
  have hB : ∀ o o', ((w.alloc o).alloc o').cell? ⟨C, 1, none⟩ = some (.map (some M)) := fun o o' => cell_alloc o' (hA o)
  obtain ⟨w1, hs, hact, hgr, hsz⟩ := store_new ((HA.out.alloc (.cells #[.string v, .string g, .string r, .bool true] 83)).alloc (.cells #[.bool false, .map none] 88)).drew.drew hr
  unfold actKey heldAll at hs
  have HF : Hid (Acts w1 M v g (r :: rs) ∧ (((w.alloc (.cells #[.string v, .string g, .string r, .bool true] 83)).alloc (.cells #[.bool false, .map none] 88)).drew.drew).grownBy w1 (some M)) := ⟨hact, hgr⟩
  clear hact hgr hsz
  unfold actKey
  go_enter Try.func42, Try.ntmps42
  go_wp2
  go_region
  all_goals go_wp2
  all_goals go_region
  all_goals
    go_wp2
    refine bodyPost_ret (v := .tuple #[]) (results_none rfl _ _ _) rfl ⟨rfl, HF.out.1, ?_⟩
    exact grown_pre (((((Below.refl _ w).alloc (Nat.le_refl _) _).alloc (by simp) _).drew).drew) HF.out.2

end Go.Proofs.Qxb6606306aRR
