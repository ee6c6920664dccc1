/-
  The subjects: one entry with one rule, copied over.
-/
import Derived.Test.Qxb6606306aRRHeld
namespace Go.Proofs.Qxb6606306aRR
open Go.RowKit
set_option linter.unusedVariables false
set_option linter.unusedSimpArgs false

/-- A struct of six cells comes back as it went in; two blocks are laid. -/
def AggPost (w : World) (cs : Array Value) (e : Ending) (w' : World) : Prop := e = .returned (.agg cs) ∧ w' = (w.alloc (.cells cs 26)).alloc (.cells cs 41)

set_option maxRecDepth 100000 in
set_option maxHeartbeats 800000 in
theorem toRR_any (A0 A1 A2 A3 A4 : Option Addr) (n0 n1 n2 n3 n4 c0 c1 c2 c3 c4 : Nat) (b : Bool) (w : World) :
    Calls Try.prog 16 #[.agg #[.slice A0 n0 c0, .slice A1 n1 c1, .slice A2 n2 c2, .slice A3 n3 c3, .slice A4 n4 c4, .bool b]] w
      (AggPost w #[.slice A0 n0 c0, .slice A1 n1 c1, .slice A2 n2 c2, .slice A3 n3 c3, .slice A4 n4 c4, .bool b]) := by
  go_enter Try.func16, Try.ntmps16
  go_wp2
  refine bodyPost_ret (v := .agg #[.slice A0 n0 c0, .slice A1 n1 c1, .slice A2 n2 c2, .slice A3 n3 c3, .slice A4 n4 c4, .bool b]) (by simp [results, Try.results16, go_sem]) rfl ⟨rfl, rfl⟩

theorem make43 (w : World) : (Instr.makeSlice 43 (.int .i64 1) (.int .i64 1)).run Try.prog w = .ok (.slice (some ⟨w.heap.size, 0, none⟩) 1 1) (w.alloc (.cells #[.slice none 0 0, .slice none 0 0, .slice none 0 0, .slice none 0 0, .slice none 0 0, .bool false] 41)) := by kernel_rfl

/-- The six cells of a rule at block O. -/
structure Six (w : World) (O : Nat) (x0 x1 x2 x3 x4 x5 : Value) : Prop where
  c0 : w.cell? ⟨O, 0, none⟩ = some x0
  c1 : w.cell? ⟨O, 1, none⟩ = some x1
  c2 : w.cell? ⟨O, 2, none⟩ = some x2
  c3 : w.cell? ⟨O, 3, none⟩ = some x3
  c4 : w.cell? ⟨O, 4, none⟩ = some x4
  c5 : w.cell? ⟨O, 5, none⟩ = some x5

theorem Six.below {w w' : World} {O : Nat} {x0 x1 x2 x3 x4 x5 : Value} (h : Six w O x0 x1 x2 x3 x4 x5) (hb : Below w.heap.size w w') : Six w' O x0 x1 x2 x3 x4 x5 :=
  ⟨cell_below hb h.c0, cell_below hb h.c1, cell_below hb h.c2, cell_below hb h.c3, cell_below hb h.c4, cell_below hb h.c5⟩
theorem Six.alloc {w : World} {O : Nat} {x0 x1 x2 x3 x4 x5 : Value} (h : Six w O x0 x1 x2 x3 x4 x5) (o : Obj) : Six (w.alloc o) O x0 x1 x2 x3 x4 x5 := h.below ((Below.refl _ _).alloc (Nat.le_refl _) _)
theorem six_new (w : World) (e : TypeId) (x0 x1 x2 x3 x4 x5 : Value) : Six (w.alloc (.cells #[x0, x1, x2, x3, x4, x5] e)) w.heap.size x0 x1 x2 x3 x4 x5 := by
  constructor <;> simp

theorem Six.set {w : World} {O : Nat} {x0 x1 x2 x3 x4 x5 : Value} (h : Six w O x0 x1 x2 x3 x4 x5) {a : Addr} (ha : a.block ≠ O) (u : Value) : Six (w.setCell a u) O x0 x1 x2 x3 x4 x5 := by
  have e : ∀ j, (w.setCell a u).cell? ⟨O, j, none⟩ = w.cell? ⟨O, j, none⟩ := fun j => World.cell?_of_block (a := ⟨O, j, none⟩) (Below.heap_setCell w a u O (fun x => ha x.symm))
  exact ⟨(e 0).trans h.c0, (e 1).trans h.c1, (e 2).trans h.c2, (e 3).trans h.c3, (e 4).trans h.c4, (e 5).trans h.c5⟩

def RRsPost (w : World) (x0 x1 x2 x3 x4 x5 : Value) (e : Ending) (w' : World) : Prop := ∃ O, e = .returned (.slice (some ⟨O, 0, none⟩) 1 1) ∧ w.heap.size ≤ O ∧ Below w.heap.size w w' ∧ Six w' O x0 x1 x2 x3 x4 x5

set_option maxRecDepth 100000 in
set_option maxHeartbeats 800000 in
theorem toRRs_any (Ru : Nat) (A0 A1 A2 A3 A4 : Option Addr) (n0 n1 n2 n3 n4 c0 c1 c2 c3 c4 : Nat) (b : Bool) (w : World) (h : Six w Ru (.slice A0 n0 c0) (.slice A1 n1 c1) (.slice A2 n2 c2) (.slice A3 n3 c3) (.slice A4 n4 c4) (.bool b)) :
    Calls Try.prog 35 #[.slice (some ⟨Ru, 0, none⟩) 1 1] w (RRsPost w (.slice A0 n0 c0) (.slice A1 n1 c1) (.slice A2 n2 c2) (.slice A3 n3 c3) (.slice A4 n4 c4) (.bool b)) := by
  have hm := make43
  have e0 : ∀ o, (w.alloc o).cell? ⟨Ru, 0, none⟩ = some (.slice A0 n0 c0) := fun o => cell_alloc o h.c0
  have e1 : ∀ o, (w.alloc o).cell? ⟨Ru, 1, none⟩ = some (.slice A1 n1 c1) := fun o => cell_alloc o h.c1
  have e2 : ∀ o, (w.alloc o).cell? ⟨Ru, 2, none⟩ = some (.slice A2 n2 c2) := fun o => cell_alloc o h.c2
  have e3 : ∀ o, (w.alloc o).cell? ⟨Ru, 3, none⟩ = some (.slice A3 n3 c3) := fun o => cell_alloc o h.c3
  have e4 : ∀ o, (w.alloc o).cell? ⟨Ru, 4, none⟩ = some (.slice A4 n4 c4) := fun o => cell_alloc o h.c4
  have e5 : ∀ o, (w.alloc o).cell? ⟨Ru, 5, none⟩ = some (.bool b) := fun o => cell_alloc o h.c5
  clear h
  go_enter Try.func35, Try.ntmps35
  go_wp2_with fail
  refine wp_loop_rounds 2 ?_
  rw [rounds_succ]
  go_wp2_with fail
  refine (toRR_any A0 A1 A2 A3 A4 n0 n1 n2 n3 n4 c0 c1 c2 c3 c4 b _).mono ?_
  rintro e w1 ⟨rfl, rfl⟩
  go_wp2_with fail
  rw [rounds_succ]
  go_wp2_with fail
  go_ret
  refine ⟨w.heap.size, rfl, Nat.le_refl _, ?_, ?_⟩
  · exact (((Below.refl _ _).alloc (Nat.le_refl _) _).alloc (by simp) _).alloc (by simp; omega) _
  · exact ((six_new _ _ _ _ _ _ _ _).alloc _).alloc _

theorem make51 (w : World) : (Instr.makeSlice 51 (.int .i64 1) (.int .i64 1)).run Try.prog w = .ok (.slice (some ⟨w.heap.size, 0, none⟩) 1 1) (w.alloc (.cells #[.pointer none] 47)) := by kernel_rfl
theorem make48 (w : World) : (Instr.makeSlice 48 (.int .i64 0) (.int .i64 0)).run Try.prog w = .ok (.slice (some ⟨w.heap.size, 0, none⟩) 0 0) (w.alloc (.cells #[] 73)) := by kernel_rfl

/-- What 'subjects' hands back: one pointer to the rules of one subject, one rule for resources, none for paths. -/
structure Subj (w : World) (P : Nat) (x0 x1 x2 x3 x4 x5 : Value) : Prop where
  out : ∃ Q O Z, w.cell? ⟨P, 0, none⟩ = some (.pointer (some ⟨Q, 0, none⟩)) ∧ w.cell? ⟨Q, 5, none⟩ = some (.slice (some ⟨O, 0, none⟩) 1 1) ∧ w.cell? ⟨Q, 6, none⟩ = some (.slice Z 0 0) ∧ Six w O x0 x1 x2 x3 x4 x5
def SubPost (w : World) (x0 x1 x2 x3 x4 x5 : Value) (e : Ending) (w' : World) : Prop := ∃ P, e = .returned (.slice (some ⟨P, 0, none⟩) 1 1) ∧ Below w.heap.size w w' ∧ Subj w' P x0 x1 x2 x3 x4 x5

set_option maxRecDepth 100000 in
set_option maxHeartbeats 800000 in
theorem subjects_any (E Ru : Nat) (A0 A1 A2 A3 A4 : Option Addr) (n0 n1 n2 n3 n4 c0 c1 c2 c3 c4 : Nat) (b : Bool) (w : World) (he0 : w.cell? ⟨E, 0, none⟩ = some (.slice (some ⟨Ru, 0, none⟩) 1 1)) (he1 : w.cell? ⟨E, 1, none⟩ = some (.slice none 0 0))
    (h : Six w Ru (.slice A0 n0 c0) (.slice A1 n1 c1) (.slice A2 n2 c2) (.slice A3 n3 c3) (.slice A4 n4 c4) (.bool b)) :
    Calls Try.prog 22 #[.slice (some ⟨E, 0, none⟩) 1 1] w (SubPost w (.slice A0 n0 c0) (.slice A1 n1 c1) (.slice A2 n2 c2) (.slice A3 n3 c3) (.slice A4 n4 c4) (.bool b)) := by
  have hm := make51
  have hm2 := make48
  have HS : Hid (Six w Ru (.slice A0 n0 c0) (.slice A1 n1 c1) (.slice A2 n2 c2) (.slice A3 n3 c3) (.slice A4 n4 c4) (.bool b)) := h
  have e0 : ∀ o, (w.alloc o).cell? ⟨E, 0, none⟩ = some (.slice (some ⟨Ru, 0, none⟩) 1 1) := fun o => cell_alloc o he0
  have e1 : (w.alloc (.cells #[.pointer none] 47)).cell? ⟨E, 1, none⟩ = some (.slice none 0 0) := cell_alloc _ he1
  have H1 : Hid ((w.alloc (.cells #[.pointer none] 47)).cell? ⟨E, 1, none⟩ = some (.slice none 0 0)) := e1
  clear h he0 he1 e1
  go_enter Try.func22, Try.ntmps22
  go_wp2_with fail
  refine wp_loop_rounds 2 ?_
  rw [rounds_succ]
  go_wp2_with fail
  refine (toRRs_any Ru A0 A1 A2 A3 A4 n0 n1 n2 n3 n4 c0 c1 c2 c3 c4 b _ (HS.out.alloc _)).mono ?_
  rintro e w1 ⟨O, rfl, hO, hb, hsix⟩
  have hO' : w.heap.size ≠ O := by simp at hO; omega
  clear hO
  have k1 : w1.cell? ⟨E, 1, none⟩ = some (.slice none 0 0) := cell_below hb H1.out
  have k2 : w1.cell? ⟨w.heap.size, 0, none⟩ = some (.pointer none) := cell_below hb (by simp)
  have z2 : w1.frozen? ⟨w.heap.size, 0, none⟩ = false := (hb.frozen (p := ⟨w.heap.size, 0, none⟩) (by simp)).trans (by simp)
  have HB : Hid (Below (w.alloc (.cells #[.pointer none] 47)).heap.size (w.alloc (.cells #[.pointer none] 47)) w1) := hb
  have HX : Hid (Six w1 O (.slice A0 n0 c0) (.slice A1 n1 c1) (.slice A2 n2 c2) (.slice A3 n3 c3) (.slice A4 n4 c4) (.bool b)) := hsix
  have hz : w.heap.size < w1.heap.size := by have := hb.size; simp at this; omega
  clear hb hsix
  go_wp2_with fail
  refine wp_loop_rounds 1 ?_
  rw [rounds_succ]
  go_wp2_with fail
  rw [rounds_succ]
  go_wp2_with fail
  go_ret
  have hsz : (w1.setCell ⟨w.heap.size, 0, none⟩ (.pointer (some ⟨w1.heap.size + 1, 0, none⟩))).heap.size = w1.heap.size := by simp [World.setCell]
  have hset : (w1.setCell ⟨w.heap.size, 0, none⟩ (.pointer (some ⟨w1.heap.size + 1, 0, none⟩))).cell? ⟨w.heap.size, 0, none⟩ = some (.pointer (some ⟨w1.heap.size + 1, 0, none⟩)) := World.cell?_setCell_same w1 _ _ k2
  refine ⟨w.heap.size, rfl, ?_, ⟨w1.heap.size + 1, O, some ⟨w1.heap.size, 0, none⟩, cell_alloc _ (cell_alloc _ hset), ?_, ?_, ((HX.out.set hO' _).alloc _).alloc _⟩⟩
  · exact (((((Below.refl _ _).alloc (Nat.le_refl _) _).trans (HB.out.mono (by simp))).setCell (p := ⟨w.heap.size, 0, none⟩) (Nat.le_refl _) _).alloc (by rw [hsz]; omega) _).alloc (by simp; omega) _
  · rw [World.cell?_alloc_at _ _ _ _ (by simp)]; rfl
  · rw [World.cell?_alloc_at _ _ _ _ (by simp)]; rfl

end Go.Proofs.Qxb6606306aRR
