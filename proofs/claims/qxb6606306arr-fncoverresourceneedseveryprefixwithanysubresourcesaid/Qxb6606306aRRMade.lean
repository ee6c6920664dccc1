/-
  The coverage made: its map holds the one rule's actions.
-/
import Derived.Test.Qxb6606306aRRBuild
namespace Go.Proofs.Qxb6606306aRR
open Go.RowKit
set_option linter.unusedVariables false
set_option linter.unusedSimpArgs false

/-- A slice of strings that lies at the head of a block. -/
def Names (w : World) (A : Option Addr) (n : Nat) (names : List ByteArray) : Prop := names.length = n ∧ ∀ j (h : j < names.length), ∃ g, A = some ⟨g, 0, none⟩ ∧ w.cell? ⟨g, j, none⟩ = some (.string names[j])

theorem Names.below {w w' : World} {A : Option Addr} {n : Nat} {names : List ByteArray} (h : Names w A n names) (hb : Below w.heap.size w w') : Names w' A n names :=
  ⟨h.1, fun j hj => by obtain ⟨g, a, b⟩ := h.2 j hj; exact ⟨g, a, cell_below hb b⟩⟩
theorem Subj.below {w w' : World} {P : Nat} {x0 x1 x2 x3 x4 x5 : Value} (h : Subj w P x0 x1 x2 x3 x4 x5) (hb : Below w.heap.size w w') : Subj w' P x0 x1 x2 x3 x4 x5 := by
  obtain ⟨Q, O, Z, a, b, c, d⟩ := h.out
  exact ⟨Q, O, Z, cell_below hb a, cell_below hb b, cell_below hb c, d.below hb⟩

/-- What the one rule leads to. -/
structure Rule1 (w : World) (P Bv Bg : Nat) (A : Option Addr) (n cp : Nat) (names : List ByteArray) (v g : ByteArray) : Prop where
  subj : Subj w P (.slice (some ⟨Bv, 0, none⟩) 1 1) (.slice (some ⟨Bg, 0, none⟩) 1 1) (.slice A n cp) (.slice none 0 0) (.slice none 0 0) (.bool true)
  cv : w.cell? ⟨Bv, 0, none⟩ = some (.string v)
  cg : w.cell? ⟨Bg, 0, none⟩ = some (.string g)
  names : Names w A n names
theorem Rule1.below {w w' : World} {P Bv Bg : Nat} {A : Option Addr} {n cp : Nat} {names : List ByteArray} {v g : ByteArray} (h : Rule1 w P Bv Bg A n cp names v g) (hb : Below w.heap.size w w') : Rule1 w' P Bv Bg A n cp names v g :=
  ⟨h.subj.below hb, cell_below hb h.cv, cell_below hb h.cg, h.names.below hb⟩

def MadePost (C : Nat) (v g : ByteArray) (names : List ByteArray) (w : World) (e : Ending) (w' : World) : Prop :=
  ∃ M, e = .returned (.pointer (some ⟨C, 0, none⟩)) ∧ w'.cell? ⟨C, 1, none⟩ = some (.map (some M)) ∧ Acts w' M v g names.reverse ∧ Below w.heap.size w w'

/-- The coverage with its two maps made. -/
def maps1 (w : World) (P : Nat) : World := ((w.alloc (.cells #[.slice (some ⟨P, 0, none⟩) 1 1, .map (some (w.heap.size + 1)), .map (some (w.heap.size + 1 + 1))] 70)).alloc (.map #[] 0)).alloc (.map #[] 0)
theorem maps1_below (w : World) (P : Nat) : Below w.heap.size w (maps1 w P) := (((Below.refl _ _).alloc (Nat.le_refl _) _).alloc (by simp) _).alloc (by simp; omega) _
theorem maps1_size (w : World) (P : Nat) : (maps1 w P).heap.size = w.heap.size + 3 := by simp [maps1]
theorem maps1_cell (w : World) (P : Nat) : (maps1 w P).cell? ⟨w.heap.size, 1, none⟩ = some (.map (some (w.heap.size + 1))) := cell_alloc _ (cell_alloc _ (by simp))
theorem maps1_acts (w : World) (P : Nat) (v g : ByteArray) : Acts (maps1 w P) (w.heap.size + 1) v g [] := by
  have h := acts_new (w.alloc (.cells #[.slice (some ⟨P, 0, none⟩) 1 1, .map (some (w.heap.size + 1)), .map (some (w.heap.size + 1 + 1))] 70)) v g
  have hs : (w.alloc (.cells #[.slice (some ⟨P, 0, none⟩) 1 1, .map (some (w.heap.size + 1)), .map (some (w.heap.size + 1 + 1))] 70)).heap.size = w.heap.size + 1 := by simp
  rw [hs] at h
  exact h.alloc _

theorem take_rev {names : List ByteArray} {k : Nat} (h : k < names.length) : (names.take (k + 1)).reverse = names[k] :: (names.take k).reverse := by
  rw [List.take_succ_eq_append_getElem h]; simp
theorem not_mem_take {names : List ByteArray} (hnd : names.Nodup) {k : Nat} (h : k < names.length) : names[k] ∉ (names.take k).reverse := by
  intro hm
  rw [List.mem_reverse, List.mem_take_iff_getElem] at hm
  obtain ⟨i, hi, e⟩ := hm
  have := (List.getElem_inj hnd).1 e
  omega
theorem grown_trans {a b c : World} {row : Option Nat} (h : a.grownBy b row) (g : b.grownBy c row) : a.grownBy c row :=
  ⟨g.os.trans h.os, g.tape.trans h.tape, g.output.trans h.output, Nat.le_trans h.size g.size, fun k hk hne => (g.block k (Nat.lt_of_lt_of_le hk h.size) hne).trans (h.block k hk hne)⟩
def HoldRel (M : Nat) (v g : ByteArray) (n : Nat) (names : List ByteArray) (W2 : World) (i : Value) (wr : World) : Prop := ∃ k : Nat, k ≤ n ∧ i = .int .i64 k ∧ Acts wr M v g (names.take k).reverse ∧ W2.grownBy wr (some M)

set_option maxRecDepth 100000 in
set_option maxHeartbeats 1600000 in
theorem made_any (P Bv Bg : Nat) (A : Option Addr) (n cp : Nat) (names : List ByteArray) (v g : ByteArray) (w : World) (hn : n ≤ 1048576) (hr : Rule1 w P Bv Bg A n cp names v g) (hnd : names.Nodup) :
    Calls Try.prog 34 #[.pointer (some ⟨w.heap.size, 0, none⟩)] (w.alloc (.cells #[.slice (some ⟨P, 0, none⟩) 1 1, .map none, .map none] 70)) (MadePost w.heap.size v g names w) := by
  have hmm := @run_makeMap Try.prog
  have hne := fun W => run_neq_map_nil (P := Try.prog) W 67 83 88 none Try.underlying67
  have HR : Hid (Rule1 w P Bv Bg A n cp names v g ∧ names.Nodup) := ⟨hr, hnd⟩
  clear hr hnd
  go_enter Try.func34, Try.ntmps34
  go_wp2_with fail
  have HB : Hid (Below w.heap.size w (maps1 w P)) := maps1_below w P
  have HC : Hid ((maps1 w P).cell? ⟨w.heap.size, 1, none⟩ = some (.map (some (w.heap.size + 1)))) := maps1_cell w P
  have HA : Hid (Acts (maps1 w P) (w.heap.size + 1) v g []) := maps1_acts w P v g
  have HZ : Hid ((maps1 w P).heap.size = w.heap.size + 3) := maps1_size w P
  have HR1 : Hid (Rule1 (maps1 w P) P Bv Bg A n cp names v g) := HR.out.1.below HB.out
  change (Code.loop _).wp Try.prog _ _ (maps1 w P)
  generalize maps1 w P = W1 at *
  obtain ⟨Q, O, Z, q0w, q1w, q2w, sixw⟩ := HR.out.1.subj.out
  have hQw : Q < w.heap.size := World.block_lt_of_cell? w ⟨Q, 6, none⟩ q2w
  have q0 := cell_below HB.out q0w
  have q1 := cell_below HB.out q1w
  have q2 := cell_below HB.out q2w
  have six := sixw.below HB.out
  clear q0w q1w q2w sixw
  have HX : Hid (Six W1 O (.slice (some ⟨Bv, 0, none⟩) 1 1) (.slice (some ⟨Bg, 0, none⟩) 1 1) (.slice A n cp) (.slice none 0 0) (.slice none 0 0) (.bool true)) := six
  have s0 := six.c0
  have s1 := six.c1
  have s2 := six.c2
  have s3 := six.c3
  have s4 := six.c4
  have s5 := six.c5
  clear six
  refine wp_loop_rounds 2 ?_
  rw [rounds_succ]
  go_wp2_with fail
  refine wp_loop_rounds 2 ?_
  rw [rounds_succ]
  have hv : ∀ o, (W1.alloc o).cell? ⟨Bv, 0, none⟩ = some (.string v) := fun o => cell_alloc o HR1.out.cv
  have hg : ∀ o, (W1.alloc o).cell? ⟨Bg, 0, none⟩ = some (.string g) := fun o => cell_alloc o HR1.out.cg
  go_wp2_with fail
  refine wp_loop_rounds 2 ?_
  rw [rounds_succ]
  go_wp2_with fail
  refine wp_loop_rounds 2 ?_
  rw [rounds_succ]
  go_wp2_with fail
  obtain ⟨W2, hW2⟩ : ∃ W2, W2 = W1.alloc (.cells #[.slice (some ⟨Bv, 0, none⟩) 1 1, .slice (some ⟨Bg, 0, none⟩) 1 1, .slice A n cp, .slice none 0 0, .slice none 0 0, .bool true] 41) := ⟨_, rfl⟩
  have HK : Hid (Six W2 W1.heap.size (.slice (some ⟨Bv, 0, none⟩) 1 1) (.slice (some ⟨Bg, 0, none⟩) 1 1) (.slice A n cp) (.slice none 0 0) (.slice none 0 0) (.bool true)) := by rw [hW2]; exact six_new _ _ _ _ _ _ _ _
  have HB2 : Hid (Below W1.heap.size W1 W2) := by rw [hW2]; exact (Below.refl _ _).alloc (Nat.le_refl _) _
  rw [← hW2]
  clear hW2
  have HQ : Hid (W1.cell? ⟨Q, 6, none⟩ = some (.slice Z 0 0) ∧ Q < w.heap.size) := ⟨q2, hQw⟩
  clear q0 q1 q2 s0 s1 s2 s3 s4 s5 hv hg HX
  go_loopw [66] (fun i wr => HoldRel (w.heap.size + 1) v g n names W2 i wr) (fun i _ => n - (intOf i).toNat)
  case atStart => exact ⟨0, Nat.zero_le _, rfl, (HA.out).kept (HB2.out.block _ HA.out.lt), World.grownBy.refl _ _⟩
  case round =>
    obtain ⟨k, hk, rfl, hact, hgr⟩ := hrel
    have HG : Hid (Acts wr (w.heap.size + 1) v g (names.take k).reverse ∧ W2.grownBy wr (some (w.heap.size + 1))) := ⟨hact, hgr⟩
    clear hact hgr
    have kk3 : wr.cell? ⟨W1.heap.size, 3, none⟩ = some (.slice none 0 0) := HG.out.2.cell HK.out.c3 (by have := HZ.out; simp; omega)
    have kk5 : wr.cell? ⟨W1.heap.size, 5, none⟩ = some (.bool true) := HG.out.2.cell HK.out.c5 (by have := HZ.out; simp; omega)
    have hc1 : wr.cell? ⟨w.heap.size, 1, none⟩ = some (.map (some (w.heap.size + 1))) := HG.out.2.cell (cell_below HB2.out HC.out) (by simp)
    by_cases hlt : k < n
    · have hkl : k < names.length := by have := HR.out.1.names.1; omega
      obtain ⟨gA, hA', hcw⟩ := HR.out.1.names.2 k hkl
      have hgA := World.block_lt_of_cell? w _ hcw
      subst hA'
      have hck : wr.cell? ⟨gA, k, none⟩ = some (.string names[k]) := HG.out.2.cell (cell_below HB2.out (cell_below HB.out hcw)) (by simp; simp at hgA; omega)
      have HNI : Hid (names[k] ∉ (names.take k).reverse) := not_mem_take HR.out.2 hkl
      clear hcw hgA
      go_wp2_with fail
      refine (hold_new w.heap.size (w.heap.size + 1) v g names[k] (names.take k).reverse wr hc1 HG.out.1 HNI.out).mono ?_
      rintro e w3 ⟨rfl, hact3, hgr3⟩
      have HG3 : Hid (Acts w3 (w.heap.size + 1) v g (names.take (k + 1)).reverse ∧ W2.grownBy w3 (some (w.heap.size + 1))) := ⟨by rw [take_rev hkl]; exact hact3, grown_trans HG.out.2 hgr3⟩
      clear hact3 hgr3
      go_wp2_with fail
      go_roundw
      case rel => exact ⟨k + 1, by omega, by go_num, HG3.out.1, HG3.out.2⟩
      case measure => simp [intOf]; omega
    · have hq6 : wr.cell? ⟨Q, 6, none⟩ = some (.slice Z 0 0) := HG.out.2.cell (cell_below HB2.out HQ.out.1) (by simp; have := HQ.out.2; omega)
      have HN : Hid (names.take k = names) := List.take_of_length_le (by have := HR.out.1.names.1; omega)
      go_wp2_with fail
      rw [rounds_succ]
      go_wp2_with fail
      rw [rounds_succ]
      go_wp2_with fail
      rw [rounds_succ]
      go_wp2_with fail
      refine wp_loop_rounds 1 ?_
      rw [rounds_succ]
      go_wp2_with fail
      rw [rounds_succ]
      go_wp2_with fail
      go_ret
      have h1 := HG.out.1
      rw [HN.out] at h1
      exact ⟨w.heap.size + 1, rfl, hc1, h1, ((HB.out.trans (HB2.out.mono (by have := HZ.out; omega))).grown HG.out.2 (by have := HB2.out.size; have := HZ.out; omega) (fun j e => by simp at e; omega))⟩

end Go.Proofs.Qxb6606306aRR
