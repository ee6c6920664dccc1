/-
  A struct value built of two arrays.
-/
import Derived.Test.Qxb6609257aRows
import Derived.WalkKit
import Derived.Deep.MidRow
namespace Go.Proofs.Qxb6609257a
open Go.RowKit
set_option linter.unusedVariables false
set_option maxRecDepth 100000

/-- What laying a row over cells leaves. -/
def lay (cells : Array Value) (off : Nat) (v : Array Value) : Array Value := v.zipIdx.foldl (fun cs (c, j) => cs.setIfInBounds (off + j) c) cells

theorem foldl_lay (off : Nat) : ∀ (l : List Value) (s : Nat) (cells : Array Value), ((l.zipIdx s).foldl (fun cs (p : Value × Nat) => cs.setIfInBounds (off + p.2) p.1) cells).size = cells.size ∧
    ∀ k, k < cells.size → ((l.zipIdx s).foldl (fun cs (p : Value × Nat) => cs.setIfInBounds (off + p.2) p.1) cells)[k]? = if off + s ≤ k ∧ k < off + s + l.length then l[k - (off + s)]? else cells[k]?
  | [], s, cells => ⟨rfl, fun k hk => by rw [if_neg (by simp; try omega)]; rfl⟩
  | x :: l, s, cells => by
    obtain ⟨h1, h2⟩ := foldl_lay off l (s + 1) (cells.setIfInBounds (off + s) x)
    rw [List.zipIdx_cons, List.foldl_cons]
    refine ⟨by rw [h1]; simp, fun k hk => ?_⟩
    rw [h2 k (by simpa using hk)]
    by_cases e : k = off + s
    · subst e
      rw [if_neg (by omega), if_pos (by simp), Array.getElem?_setIfInBounds]
      simp [hk]
    · by_cases e1 : off + (s + 1) ≤ k ∧ k < off + (s + 1) + l.length
      · rw [if_pos e1, if_pos (by simp; omega)]
        obtain ⟨m, hm⟩ : ∃ m, k - (off + s) = m + 1 := ⟨k - (off + s) - 1, by omega⟩
        rw [hm, List.getElem?_cons_succ]
        congr 1
        omega
      · rw [if_neg e1, if_neg (by simp; omega), Array.getElem?_setIfInBounds]
        rw [if_neg (fun h => e h.symm)]

theorem lay_eq (cells : Array Value) (off : Nat) (v : Array Value) : lay cells off v = (v.toList.zipIdx 0).foldl (fun cs (p : Value × Nat) => cs.setIfInBounds (off + p.2) p.1) cells := by
  unfold lay
  rw [← Array.foldl_toList, Array.toList_zipIdx]
theorem lay_size (cells : Array Value) (off : Nat) (v : Array Value) : (lay cells off v).size = cells.size := by rw [lay_eq]; exact (foldl_lay off v.toList 0 cells).1
theorem lay_get (cells : Array Value) (off : Nat) (v : Array Value) (k : Nat) (hk : k < cells.size) : (lay cells off v)[k]? = if off ≤ k ∧ k < off + v.size then v[k - off]? else cells[k]? := by
  rw [lay_eq, (foldl_lay off v.toList 0 cells).2 k hk]
  simp

/-- The cells of an empty charset. -/
def Z33 : Array Value := #[.string { data := #[] }] ++ Array.replicate 512 (.bool false)
theorem Z33_size : Z33.size = 513 := by simp [Z33]
theorem zero33 : ∀ w : World, (zeroValue 33).run Try.prog w = .ok (.agg Z33) w := fun w => by kernel_rfl
theorem size23 : ∀ w : World, (sizeOf 23).run Try.prog w = .ok 256 w := fun w => by kernel_rfl
theorem size9 : ∀ w : World, (sizeOf 9).run Try.prog w = .ok 1 w := fun w => by kernel_rfl

/-- The cells of a charset with these two tables. -/
def chs (F S : Array Value) : Array Value := lay (lay Z33 1 F) 257 S
theorem chs_size (F S : Array Value) : (chs F S).size = 513 := by unfold chs; rw [lay_size, lay_size, Z33_size]
theorem chs_lead {F S : Array Value} (hF : F.size = 256) (hS : S.size = 256) {k : Nat} (hk : k < 256) : (chs F S)[1 + k]? = F[k]? := by
  unfold chs
  rw [lay_get _ _ _ _ (by rw [lay_size, Z33_size]; omega), if_neg (by omega), lay_get _ _ _ _ (by rw [Z33_size]; omega), if_pos (by omega)]
  congr 1
  omega
theorem chs_trail {F S : Array Value} (hF : F.size = 256) (hS : S.size = 256) {k : Nat} (hk : k < 256) : (chs F S)[257 + k]? = S[k]? := by
  unfold chs
  rw [lay_get _ _ _ _ (by rw [lay_size, Z33_size]; omega), if_pos (by omega)]
  congr 1
  omega

theorem fill_step (place : Nat → Option (Nat × Nat)) (cells : Array Value) (i off size : Nat) (v : Array Value) (rest : List (Nat × Value)) (hp : place i = some (off, size)) (hs : v.size = size) (hb : off + v.size ≤ cells.size) : Instr.fill place cells ((i, .agg v) :: rest) = Instr.fill place (lay cells off v) rest := by
  rw [Instr.fill, hp]
  simp only
  rw [if_neg]
  · rfl
  · show ¬ ((decide (v.size ≠ size) || decide (off + v.size > cells.size)) = true)
    rw [decide_eq_false (fun h => h hs), decide_eq_false (by omega)]
    decide

theorem fields33 : ∃ fs : Array Field, Try.prog.underlying 33 = some (.struct fs) ∧ ∀ w : World, (fs.mapM (fun f => do pure (f.offset, ← sizeOf f.type)) : Sem (Array (Nat × Nat))).run Try.prog w = .ok #[(0, 1), (1, 256), (257, 256)] w :=
  ⟨_, Try.underlying33, fun w => by kernel_rfl⟩

theorem run_build33 (F S : Array Value) (hF : F.size = 256) (hS : S.size = 256) (w : World) : (Instr.build 33 #[(1, .agg F), (2, .agg S)]).run Try.prog w = .ok (.agg (chs F S)) w := by
  obtain ⟨fs, hu, hp⟩ := fields33
  unfold Instr.build
  rw [Sem.run_bind, zero33 w]
  simp only [Result.andThen]
  rw [Sem.run_bind, run_underlying hu w]
  simp only [Result.andThen]
  rw [Sem.run_bind, hp w]
  have hf : Instr.fill (fun x => (#[(0, 1), (1, 256), (257, 256)] : Array (Nat × Nat))[x]?) (Value.agg Z33).cells #[(1, Value.agg F), (2, Value.agg S)].toList = some (chs F S) := by
    show Instr.fill _ Z33 [(1, Value.agg F), (2, Value.agg S)] = _
    rw [fill_step _ _ 1 1 256 F _ rfl hF (by rw [hF, Z33_size]; omega), fill_step _ _ 2 257 256 S _ rfl hS (by rw [hS, lay_size, Z33_size]; omega)]
    rfl
  simp only [Result.andThen]
  rw [hf]
  rfl

end Go.Proofs.Qxb6609257a
