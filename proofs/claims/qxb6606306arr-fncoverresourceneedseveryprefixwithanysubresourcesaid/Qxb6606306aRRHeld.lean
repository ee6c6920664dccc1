/-
  The closures of coverResource; slices.ContainsFunc over one coverage.
-/
import Derived.Test.Qxb6606306aRRCovers
namespace Go.Proofs.Qxb6606306aRR
open Go.RowKit
set_option linter.unusedVariables false
set_option linter.unusedSimpArgs false

/-- The boxed variables of coverResource: the scopes (one coverage), the verb, the group, the name, named; the coverage and its map. -/
structure Env (w : World) (S L V G N B C M : Nat) (v g nm : ByteArray) (rs : List ByteArray) : Prop where
  cs : w.cell? ⟨S, 0, none⟩ = some (.slice (some ⟨L, 0, none⟩) 1 1)
  cl : w.cell? ⟨L, 0, none⟩ = some (.pointer (some ⟨C, 0, none⟩))
  cv : w.cell? ⟨V, 0, none⟩ = some (.string v)
  cg : w.cell? ⟨G, 0, none⟩ = some (.string g)
  cn : w.cell? ⟨N, 0, none⟩ = some (.string nm)
  cb : w.cell? ⟨B, 0, none⟩ = some (.bool false)
  cc : w.cell? ⟨C, 1, none⟩ = some (.map (some M))
  acts : Acts w M v g rs

theorem cell_below {w w' : World} (h : Below w.heap.size w w') {a : Addr} {x : Value} (hc : w.cell? a = some x) : w'.cell? a = some x :=
  (h.cell (World.block_lt_of_cell? w a hc)).trans hc

theorem Env.below {w w' : World} {S L V G N B C M : Nat} {v g nm : ByteArray} {rs : List ByteArray} (h : Env w S L V G N B C M v g nm rs) (hb : Below w.heap.size w w') : Env w' S L V G N B C M v g nm rs :=
  ⟨cell_below hb h.cs, cell_below hb h.cl, cell_below hb h.cv, cell_below hb h.cg, cell_below hb h.cn, cell_below hb h.cb, cell_below hb h.cc, h.acts.kept (hb.block _ h.acts.lt)⟩

/-- The answer x to 'is the resource r held, asked with any subresource (b)?' -/
def Asked (x : Bool) (r : ByteArray) (b : Bool) (rs : List ByteArray) : Prop := x = true ↔ (r ∈ rs ∧ b = true)

/-- The answer to 'is this resource held?': yes where it is among rs and asked with any subresource. -/
theorem covers_any (C M : Nat) (v g : ByteArray) (rs : List ByteArray) (r : ByteArray) (b : Bool) (nm : ByteArray) (x : Bool) (w : World) (hc : w.cell? ⟨C, 1, none⟩ = some (.map (some M))) (ha : Acts w M v g rs) (hx : Asked x r b rs) :
    Calls Try.prog 39 #[.pointer (some ⟨C, 0, none⟩), .string v, .string g, .agg #[.string r, .bool b], .string nm, .bool false] w (CovPost w x) := by
  cases x with
  | true => obtain ⟨h1, rfl⟩ := hx.1 rfl; exact covers_yes C M v g rs r nm w hc ha h1
  | false => exact covers_no C M v g rs r b nm w hc ha (fun h => by have := hx.2 h; simp at this)

set_option maxHeartbeats 400000 in
theorem inner_any (S L V G N B C M R : Nat) (v g nm : ByteArray) (rs : List ByteArray) (r : ByteArray) (b : Bool) (x : Bool) (w : World) (he : Env w S L V G N B C M v g nm rs) (h0 : w.cell? ⟨R, 0, none⟩ = some (.string r)) (h1 : w.cell? ⟨R, 1, none⟩ = some (.bool b)) (hx : Asked x r b rs) :
    Calls Try.prog 38 #[.pointer (some ⟨C, 0, none⟩), .pointer (some ⟨V, 0, none⟩), .pointer (some ⟨G, 0, none⟩), .pointer (some ⟨R, 0, none⟩), .pointer (some ⟨N, 0, none⟩), .pointer (some ⟨B, 0, none⟩)] w (CovPost w x) := by
  have HE : Hid (Env w S L V G N B C M v g nm rs) := he
  have e1 := he.cv
  have e2 := he.cg
  have e3 := he.cn
  have e4 := he.cb
  clear he
  have HX : Hid (Asked x r b rs) := hx
  clear hx
  go_enter Try.func38, Try.ntmps38
  go_wp2_with fail
  refine (covers_any C M v g rs r b nm x w HE.out.cc HE.out.acts HX.out).mono ?_
  rintro e w' ⟨rfl, hb⟩
  go_wp2_with fail
  go_ret
  exact ⟨rfl, hb⟩

/-- The function value that asks one coverage. -/
def askOne (V G R N B : Nat) : Value := .func (.func 38) #[] #[.pointer (some ⟨V, 0, none⟩), .pointer (some ⟨G, 0, none⟩), .pointer (some ⟨R, 0, none⟩), .pointer (some ⟨N, 0, none⟩), .pointer (some ⟨B, 0, none⟩)]

def idxOf (x : Bool) : Int := if x = true then 0 else -1

set_option maxRecDepth 100000 in
set_option maxHeartbeats 800000 in
theorem indexFunc_any (S L V G N B C M R : Nat) (v g nm : ByteArray) (rs : List ByteArray) (r : ByteArray) (b : Bool) (x : Bool) (w : World) (he : Env w S L V G N B C M v g nm rs) (h0 : w.cell? ⟨R, 0, none⟩ = some (.string r)) (h1 : w.cell? ⟨R, 1, none⟩ = some (.bool b)) (hx : Asked x r b rs) :
    Calls Try.prog 43 #[.slice (some ⟨L, 0, none⟩) 1 1, askOne V G R N B] w fun e w' => e = .returned (.int .i64 (idxOf x)) ∧ Below w.heap.size w w' := by
  have HE : Hid (Env w S L V G N B C M v g nm rs ∧ w.cell? ⟨R, 0, none⟩ = some (.string r) ∧ w.cell? ⟨R, 1, none⟩ = some (.bool b) ∧ Asked x r b rs) := ⟨he, h0, h1, hx⟩
  have e0 := he.cl
  clear he h0 h1 hx
  unfold askOne
  cases x with
  | true =>
    go_enter Try.func43, Try.ntmps43
    go_wp2_with fail
    refine wp_loop_rounds 1 ?_
    rw [rounds_succ]
    go_wp2_with fail
    refine (inner_any S L V G N B C M R v g nm rs r b true w HE.out.1 HE.out.2.1 HE.out.2.2.1 HE.out.2.2.2).mono ?_
    rintro e w' ⟨rfl, hb⟩
    go_wp2_with fail
    go_ret
    exact ⟨rfl, hb⟩
  | false =>
    go_enter Try.func43, Try.ntmps43
    go_wp2_with fail
    refine wp_loop_rounds 2 ?_
    rw [rounds_succ]
    go_wp2_with fail
    refine (inner_any S L V G N B C M R v g nm rs r b false w HE.out.1 HE.out.2.1 HE.out.2.2.1 HE.out.2.2.2).mono ?_
    rintro e w' ⟨rfl, hb⟩
    go_wp2_with fail
    rw [rounds_succ]
    go_wp2_with fail
    go_ret
    exact ⟨rfl, hb⟩

set_option maxHeartbeats 800000 in
theorem contains_any (S L V G N B C M R : Nat) (v g nm : ByteArray) (rs : List ByteArray) (r : ByteArray) (b : Bool) (x : Bool) (w : World) (he : Env w S L V G N B C M v g nm rs) (h0 : w.cell? ⟨R, 0, none⟩ = some (.string r)) (h1 : w.cell? ⟨R, 1, none⟩ = some (.bool b)) (hx : Asked x r b rs) :
    Calls Try.prog 37 #[.slice (some ⟨L, 0, none⟩) 1 1, askOne V G R N B] w (CovPost w x) := by
  have HE : Hid (Env w S L V G N B C M v g nm rs ∧ w.cell? ⟨R, 0, none⟩ = some (.string r) ∧ w.cell? ⟨R, 1, none⟩ = some (.bool b) ∧ Asked x r b rs) := ⟨he, h0, h1, hx⟩
  clear he h0 h1 hx
  go_enter Try.func37, Try.ntmps37
  go_wp2_with fail
  refine (indexFunc_any S L V G N B C M R v g nm rs r b x w HE.out.1 HE.out.2.1 HE.out.2.2.1 HE.out.2.2.2).mono ?_
  rintro e w' ⟨rfl, hb⟩
  cases x with
  | true =>
    unfold idxOf
    go_wp2_with fail
    go_ret
    exact ⟨rfl, hb⟩
  | false =>
    unfold idxOf
    go_wp2_with fail
    go_ret
    exact ⟨rfl, hb⟩

set_option maxRecDepth 100000 in
set_option maxHeartbeats 800000 in
theorem held_any (S L V G N B C M : Nat) (v g nm : ByteArray) (rs : List ByteArray) (r : ByteArray) (b : Bool) (x : Bool) (w : World) (he : Env w S L V G N B C M v g nm rs) (hx : Asked x r b rs) :
    Calls Try.prog 36 #[.agg #[.string r, .bool b], .pointer (some ⟨S, 0, none⟩), .pointer (some ⟨V, 0, none⟩), .pointer (some ⟨G, 0, none⟩), .pointer (some ⟨N, 0, none⟩), .pointer (some ⟨B, 0, none⟩)] w (CovPost w x) := by
  have HE : Hid (Env w S L V G N B C M v g nm rs) := he
  have e0 : ∀ o, (w.alloc o).cell? ⟨S, 0, none⟩ = some (.slice (some ⟨L, 0, none⟩) 1 1) := fun o => cell_alloc o he.cs
  have e0' : ∀ o, (w.alloc o).cell? ⟨L, 0, none⟩ = some (.pointer (some ⟨C, 0, none⟩)) := fun o => cell_alloc o he.cl
  clear he
  have HX : Hid (Asked x r b rs) := hx
  clear hx
  go_enter Try.func36, Try.ntmps36
  go_wp2_with fail
  refine (contains_any S L V G N B C M w.heap.size v g nm rs r b x _ (HE.out.below ((Below.refl _ _).alloc (Nat.le_refl _) _)) (by simp) (by simp) HX.out).mono ?_
  rintro e w' ⟨rfl, hb⟩
  go_wp2_with fail
  go_ret
  exact ⟨rfl, ((Below.refl _ _).alloc (Nat.le_refl _) _).trans (hb.mono (by simp))⟩

end Go.Proofs.Qxb6606306aRR
