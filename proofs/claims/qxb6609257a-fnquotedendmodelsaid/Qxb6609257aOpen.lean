/-
  How the arguments come in: the slice of bytes, the two tables.
-/
import Derived.Test.Qxb6609257aModel
import Derived.OpenShut
namespace Go.Proofs.Qxb6609257a
open Go.ChangeShapes Go.WideShapes Go.ChangeAt Go.RowKit
set_option linter.unusedVariables false

theorem cells4 : Try.prog.cellsOf 4 = 1 := by kernel_rfl
theorem cells23 : Try.prog.cellsOf 23 = 256 := by kernel_rfl

/-- The bool that a value is. -/
def boolOf (v : Option Value) : Bool := match v with | some (.bool b) => b | _ => false

theorem open_tab {H : Type} {enc : TypeId × Value → H} {W : World} {b0 base : Nat} {sp : Nat → Bool} {held : Bool} {v : Value} {d : DataW H} {ps : List MemPlace} (hval : Value.okWide Try.prog W .any b0 23 v)
    (h : DataW.Trod enc Try.prog W base sp held 23 v d ps) : ∃ F : Array Value, v = .agg F ∧ Tab F (fun k => boolOf F[k]?) := by
  simp only [Value.okWide, Try.underlying23] at hval
  obtain ⟨cs, rfl, h2, _⟩ := hval
  rw [cells23] at h2
  refine ⟨cs, rfl, h2, fun k hk => ?_⟩
  obtain ⟨fuel, hf⟩ := h
  obtain ⟨xs, m, _, _, _, hxl, hx⟩ := DataW.trod_array Try.underlying23 hf
  have h1 := hx k hk
  rw [List.getElem?_eq_getElem (by omega : k < xs.length)] at h1
  obtain ⟨b, h3, _⟩ := DataW.trod_bool Try.underlying4 h1
  rw [cells4] at h3
  have h4 : cs[k]? = some (.bool b) := by
    have : ((((Value.agg cs).cells.toList.drop (k * 1)).take 1))[0]? = some (.bool b) := by rw [h3]; rfl
    simpa [Value.cells] using this
  show cs[k]? = some (.bool (boolOf cs[k]?))
  rw [h4]
  rfl

/-- A slice of bytes that came in: nil, or a row of cells. -/
def IsRow (w : World) (a : Option Addr) (len cap : Nat) (zs : List Int) : Prop :=
  (a = none ∧ len = 0 ∧ cap = 0 ∧ zs = []) ∨
  ∃ x, a = some x ∧ len ≤ cap ∧ cap ≤ maxLen ∧ zs.length = cap ∧ (∀ i, i < zs.length → w.cell? (x.add i) = some (.int .u8 (zs.getD i 0))) ∧ ∀ n ∈ zs, (Lit.int .u8 n).wf = true

theorem byte_bounds {x : Int} (h : (Lit.int .u8 x).wf = true) : 0 ≤ x ∧ x ≤ 255 := by
  simp only [Lit.wf, Bool.and_eq_true, decide_eq_true_eq] at h
  exact h
theorem int_bounds {x : Int} (h : (Lit.int .i64 x).wf = true) : -9223372036854775808 ≤ x ∧ x ≤ 9223372036854775807 := by
  simp only [Lit.wf, Bool.and_eq_true, decide_eq_true_eq] at h
  exact h

end Go.Proofs.Qxb6609257a
