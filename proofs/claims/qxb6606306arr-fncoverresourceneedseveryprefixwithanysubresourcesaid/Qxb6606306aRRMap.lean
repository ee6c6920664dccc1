/-
  The map from actions to held names: its keys (a struct of two strings and a struct of a string and a bool), looked up and written.
-/
import Derived.Test.Qxb6606306aRRRows
import Derived.WalkKit
import Derived.ProofKit
import Derived.Below
import Derived.WalkSpells
import Derived.WalkSmall
import Derived.Laws.StructEq
namespace Go.Proofs.Qxb6606306aRR
open Go.RowKit
set_option linter.unusedVariables false
set_option linter.unusedSimpArgs false

/-- A key: verb, group, resource, whether with any subresource. -/
def actKey (v g r : ByteArray) (b : Bool) : Value := .agg #[.string v, .string g, .string r, .bool b]
/-- What the map holds for an action that is granted on every object; and what a look-up of one that is not there gives. -/
def heldAll : Value := .agg #[.bool true, .map none]
def heldNo : Value := .agg #[.bool false, .map none]

theorem stood83 : Try.prog.stoodInHeld 83 = false := by kernel_rfl
theorem stood56 : Try.prog.stoodInHeld 56 = false := by kernel_rfl
theorem fields83 : (Try.prog.fieldsOf 83).toList.map (fun f => (f.name, f.type, f.offset)) = [("verb", 9, 0), ("group", 9, 1), ("resource", 56, 2)] := by kernel_rfl
theorem und83 : Try.prog.underlying 83 = some (.struct (Try.prog.fieldsOf 83)) := by kernel_rfl
theorem und56 : Try.prog.underlying 56 = some (.struct (Try.prog.fieldsOf 56)) := by kernel_rfl
theorem fs83 : ∃ f0 f1 f2 : Field, (Try.prog.fieldsOf 83).toList = [f0, f1, f2] ∧ f0.name = "verb" ∧ f0.type = 9 ∧ f0.offset = 0 ∧ f1.name = "group" ∧ f1.type = 9 ∧ f1.offset = 1 ∧ f2.name = "resource" ∧ f2.type = 56 ∧ f2.offset = 2 :=
  ⟨_, _, _, rfl, rfl, rfl, rfl, rfl, rfl, rfl, rfl, rfl, rfl⟩
theorem fs56 : ∃ f0 f1 : Field, (Try.prog.fieldsOf 56).toList = [f0, f1] ∧ f0.name = "name" ∧ f0.type = 9 ∧ f0.offset = 0 ∧ f1.name = "anySubresource" ∧ f1.type = 4 ∧ f1.offset = 1 :=
  ⟨_, _, rfl, rfl, rfl, rfl, rfl, rfl, rfl⟩
theorem part83_0 (a b c d : Value) (w : World) : (part 9 #[a, b, c, d] 0).run Try.prog w = .ok a w := by kernel_rfl
theorem part83_1 (a b c d : Value) (w : World) : (part 9 #[a, b, c, d] 1).run Try.prog w = .ok b w := by kernel_rfl
theorem part83_2 (a b c d : Value) (w : World) : (part 56 #[a, b, c, d] 2).run Try.prog w = .ok (.agg #[c, d]) w := by kernel_rfl
theorem part56_0 (c d : Value) (w : World) : (part 9 #[c, d] 0).run Try.prog w = .ok c w := by kernel_rfl
theorem part56_1 (c d : Value) (w : World) : (part 4 #[c, d] 1).run Try.prog w = .ok d w := by kernel_rfl

theorem eq_str (n : Nat) (a b : ByteArray) (w : World) : (Op.equalIn (n + 1) 9 (.string a) (.string b)).run Try.prog w = .ok (a == b) w := by
  simp [Op.equalIn, run_underlying Try.underlying9]
theorem eq_bool (n : Nat) (a b : Bool) (w : World) : (Op.equalIn (n + 1) 4 (.bool a) (.bool b)).run Try.prog w = .ok (a == b) w := by
  simp [Op.equalIn, run_underlying Try.underlying4]

theorem equal56 (n : Nat) (c c' : ByteArray) (d d' : Bool) (w : World) : (Op.equalIn (n + 2) 56 (.agg #[.string c, .bool d]) (.agg #[.string c', .bool d'])).run Try.prog w = .ok (c == c' && d == d') w := by
  rw [run_equalIn_struct w (n + 1) 56 _ _ und56 stood56]
  obtain ⟨f0, f1, hl, n0, t0, o0, n1, t1, o1⟩ := fs56
  rw [hl]
  simp only [Op.eqFields, n0, t0, o0, n1, t1, o1, Sem.run_bind, Sem.run_ite, part56_0, part56_1, eq_str, eq_bool, Result.andThen_ok, Sem.run_pure]
  cases h1 : (c == c') <;> cases h2 : (d == d') <;> simp [h1, h2]

theorem equal83 (a b c a' b' c' : ByteArray) (d d' : Bool) (w : World) : (Op.equal 83 (actKey a b c d) (actKey a' b' c' d')).run Try.prog w = .ok (a == a' && b == b' && c == c' && d == d') w := by
  unfold actKey Op.equal Op.maxDepth
  rw [run_equalIn_struct w 9999 83 _ _ und83 stood83]
  obtain ⟨f0, f1, f2, hl, n0, t0, o0, n1, t1, o1, n2, t2, o2⟩ := fs83
  rw [hl]
  simp only [Op.eqFields, n0, t0, o0, n1, t1, o1, n2, t2, o2, Sem.run_bind, Sem.run_ite, part83_0, part83_1, part83_2, eq_str, equal56, Result.andThen_ok, Sem.run_pure]
  cases h1 : (a == a') <;> cases h2 : (b == b') <;> cases h3 : (c == c') <;> cases h4 : (d == d') <;> simp [h1, h2, h3, h4]

end Go.Proofs.Qxb6606306aRR
