/-
  The leaves: zzBytes; the boxes of arrays.
-/
import Derived.Test.Qxb6609257aFillA
import Derived.WalkKit
import Derived.ProofKit
import Derived.WalkSpells
import Derived.WalkSmall
import Derived.WalkLawsBesides
import Derived.Deep.QuietTactic
import Derived.BigQuiet
import Derived.Lib.Bytealg
import Derived.Below
namespace Go.Proofs.Qxb6609257a
open Go.RowKit
set_option linter.unusedVariables false
set_option linter.unusedSimpArgs false

def BoolPost (w : World) (e : Ending) (w' : World) : Prop := ∃ b : Bool, e = .returned (.bool b) ∧ Below w.heap.size w w'

set_option maxRecDepth 100000 in
set_option maxHeartbeats 1600000 in
theorem bytes7_any (a : Option Addr) (n c : Nat) (i : Int) (b1 b2 : Bool) (F S : Array Value) (w : World) (hn : n ≤ 9223372036854775807) (hF : F.size = 256) (hS : S.size = 256) :
    Calls Try.prog 7 #[.slice a n c, .int .i64 i, .bool b1, .bool b2, .agg F, .agg S] w (BoolPost w) := by
  by_cases h1 : 1048576 < n
  · go_enter Try.func7, Try.ntmps7
    go_wp2
    go_ret
    exact ⟨_, rfl, ((Below.refl _ _).alloc (Nat.le_refl _) _).alloc (by simp) _⟩
  · go_enter Try.func7, Try.ntmps7
    go_wp2
    go_ret
    exact ⟨_, rfl, ((Below.refl _ _).alloc (Nat.le_refl _) _).alloc (by simp) _⟩

theorem info23 : (Try.prog.info? 23).map (·.size) = some 256 := by kernel_rfl

/-- The block of an array's box. -/
def Box (w : World) (g : Nat) (F : Array Value) : Prop := w.heap[g]? = some (.cells F 23 (0, 0))
theorem heap_at (w : World) (o : Obj) : (w.alloc o).heap[w.heap.size]? = some o := by show (w.heap.push o)[w.heap.size]? = _; simp
theorem Box.below {w w' : World} {g : Nat} {F : Array Value} (h : Box w g F) (hb : Below w.heap.size w w') : Box w' g F := by
  unfold Box at h ⊢
  rw [hb.block g (Array.getElem?_eq_some_iff.1 h).1]; exact h
theorem box_new (w : World) (F : Array Value) : Box (w.alloc (.cells F 23)) w.heap.size F := heap_at _ _
theorem Box.alloc {w : World} {g : Nat} {F : Array Value} (h : Box w g F) (o : Obj) : Box (w.alloc o) g F := h.below ((Below.refl _ _).alloc (Nat.le_refl _) _)

theorem Box.range {w : World} {g : Nat} {F : Array Value} (h : Box w g F) : w.rangeAt g 0 F.toList := by
  intro j v hv
  unfold Box at h
  simp only [World.cell?, h, Nat.zero_add]
  simpa using hv

/-- A whole array out of its box. -/
theorem wpList_load_arr {ops : Array Oper} {rest : List Oper} {op : Oper} {a : Act} {w : World} {Q : Exit → Act → World → Prop} (hgd : op.guard = none) (x : Operand) (ho : op.op = .load 23 x)
    (g : Nat) (hx : a.eval x = .pointer (some ⟨g, 0, none⟩)) (F : Array Value) (hg : Box w g F) (hF : F.size = 256) (h : wpList Try.prog ops Q rest (a.put op.dst (.agg F)) w) : wpList Try.prog ops Q (op :: rest) a w := by
  refine wpList_load_mid hgd 23 x ho g 0 hx F.toList _ hg.range Try.underlying23 rfl (by rw [info23]; simp [hF]) ?_
  simpa using h

/-- A charset built of two tables. -/
theorem wpList_build33 {ops : Array Oper} {rest : List Oper} {op : Oper} {a : Act} {w : World} {Q : Exit → Act → World → Prop} (hgd : op.guard = none) (x y : Operand) (ho : op.op = .build 33 #[(1, x), (2, y)])
    (F S : Array Value) (hx : a.eval x = .agg F) (hy : a.eval y = .agg S) (hF : F.size = 256) (hS : S.size = 256) (h : wpList Try.prog ops Q rest (a.put op.dst (.agg (chs F S))) w) : wpList Try.prog ops Q (op :: rest) a w := by
  refine wpList_plain hgd fun K hK => ?_
  have hr := run_build33 F S hF hS w
  unfold Oper.wp execOp
  simp only [ho, List.map_toArray, List.map_cons, List.map_nil, hx, hy, Sem.run_bind, hr, Sem.run_pure, Result.andThen_ok]
  exact hK _ _ h

/-- The charset that a call is handed: none, or the block of the two tables. -/
def Chs (w : World) (cs : Option Addr) (b2 : Bool) (F S : Array Value) : Prop := (b2 = false ∧ cs = none) ∨ (b2 = true ∧ ∃ g, cs = some ⟨g, 0, none⟩ ∧ w.heap[g]? = some (.cells (chs F S) 33 (0, 0)))
def NQPost (b1 b2 : Bool) (F S : Array Value) (w : World) (e : Ending) (w' : World) : Prop := ∃ cs, e = .returned (.agg #[.bool b1, .pointer cs]) ∧ Below w.heap.size w w' ∧ Chs w' cs b2 F S

set_option maxRecDepth 100000 in
set_option maxHeartbeats 1600000 in
theorem new_any (b1 b2 : Bool) (F S : Array Value) (w : World) (hF : F.size = 256) (hS : S.size = 256) :
    Calls Try.prog 8 #[.bool b1, .bool b2, .agg F, .agg S] w (NQPost b1 b2 F S w) := by
  go_enter Try.func8, Try.ntmps8
  cases b2
  · go_wp2_with fail
    refine bodyPost_ret (v := .agg #[.bool b1, .pointer none]) (by simp [results, Try.results8, go_sem]) rfl ?_
    exact ⟨none, rfl, (((Below.refl _ _).alloc (Nat.le_refl _) _).alloc (by simp) _).alloc (by simp; omega) _, .inl ⟨rfl, rfl⟩⟩
  · go_wp2_with (first
      | (refine wpList_load_arr rfl (.tmp 6) rfl w.heap.size rfl F ?_ hF ?_; exact ((box_new w F).alloc _).alloc _)
      | (refine wpList_load_arr rfl (.tmp 7) rfl (w.heap.size + 1) rfl S ?_ hS ?_; exact (by have := (box_new (w.alloc (.cells F 23)) S).alloc (Obj.cells #[Value.bool false, Value.pointer none] 27); simpa using this))
      | (refine wpList_build33 rfl (.tmp 14) (.tmp 15) rfl F S rfl rfl hF hS ?_))
    refine bodyPost_ret (v := .agg #[.bool b1, .pointer (some ⟨w.heap.size + 1 + 1 + 1, 0, none⟩)]) (by simp [results, Try.results8, go_sem]) rfl ?_
    refine ⟨_, rfl, ((((Below.refl _ _).alloc (Nat.le_refl _) _).alloc (by simp) _).alloc (by simp; omega) _).alloc (by simp; omega) _, .inr ⟨rfl, _, rfl, ?_⟩⟩
    have := heap_at (((w.alloc (Obj.cells F 23)).alloc (Obj.cells S 23)).alloc (Obj.cells #[Value.bool b1, Value.pointer (some { block := w.heap.size + 1 + 1 + 1, off := 0 })] 27)) (Obj.cells (chs F S) 33)
    rw [show (((w.alloc (Obj.cells F 23)).alloc (Obj.cells S 23)).alloc (Obj.cells #[Value.bool b1, Value.pointer (some { block := w.heap.size + 1 + 1 + 1, off := 0 })] 27)).heap.size = w.heap.size + 1 + 1 + 1 by simp] at this
    exact this

end Go.Proofs.Qxb6609257a
