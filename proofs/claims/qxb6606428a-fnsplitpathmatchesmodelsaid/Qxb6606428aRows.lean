/-
  No cell of these rows narrows 'for every input' (looked for: loops, veiled, ifaces, maps, wideKeys, modest, calm, conditions, laid).
  DERIVED. THE GIVEN ROWS OF THIS SEAT. 3 by the template 'for every input the law returns true; each argument reads behind the call as it read before'; 0 by the template 'total and deterministic' (their statements: Qxb6606428aTotals.lean).
  GIVEN WITH THE SEED: the statements are not yours to turn. If you find one false, say at which input.
  Laid BY PROGRAM, IN A SANDBOX (cutbox-rows.mjs): the forced cells as the released guide's own fill.sh prints them over the translation 749011124afae35f… (all of the seat's roots in one cut). By AI agents, Wed Nov 11 2026. No macro, syntax, notation, axiom, sorry.
-/
import Derived.Test.Qxb6606428aChecked
import GoSem.Claim
import GoSem.ClaimJoined
import GoSem.ClaimMapViews
import Derived.JoinedTies
import Derived.KernelRfl
namespace Go.Proofs.Qxb6606428a
/- THE CELL 'sum', in the pinned program and in every row, IS THE sha256 OF THE DUMP (.gsa) THAT Qxb6606428aProg.lean LOADS. Nothing in Lean hashes anything: it is a label: what it is worth is what the hold of that sum in a sandbox is worth. -/
noncomputable def Try.pinned : Pinned := { name := "qxb6606428a", sum := "749011124afae35f01b4dad9af9513ee93daf7b33603341a3049a37b0bababf5", checked := Try.checked }
namespace Rows
def none {H : Type} : Left H := { results := [], args := [] }

/-- 'zzlaws_root_b1.FnSplitPathMatchesModel': WHATEVER THE INPUT: true; the input reads as it did. -/
def fnSplitPathMatchesModelSpec : ChangeSpec := { name := "fnSplitPathMatchesModel", fn := fun _ => fun
  | [d1, d2, d3] => { results := [.lit (.bool true)], args := [d1, d2, d3] }
  | _ => none }
def fnSplitPathMatchesModelRow : OpenClaim := { program := "qxb6606428a", sum := "749011124afae35f01b4dad9af9513ee93daf7b33603341a3049a37b0bababf5", func := "example.com/civil-throttle/civil-throttle/zzlaws_root_b1.FnSplitPathMatchesModel", spec := "fnSplitPathMatchesModel", inPlace := ["internal/bytealg.IndexByteString"], apart := false }
def FnSplitPathMatchesModelSaid : Prop := fnSplitPathMatchesModelRow.holds Try.pinned (OpenSpec.ofChange fnSplitPathMatchesModelSpec)

/-- ITS FALSE NEIGHBOUR: 'it returns false'. Refute it at one input. -/
def fnSplitPathMatchesModelWrong : ChangeSpec := { name := "fnSplitPathMatchesModel", fn := fun _ => fun
  | [d1, d2, d3] => { results := [.lit (.bool false)], args := [d1, d2, d3] }
  | _ => none }
def FnSplitPathMatchesModelWrongFalsely : Prop := fnSplitPathMatchesModelRow.holds Try.pinned (OpenSpec.ofChange fnSplitPathMatchesModelWrong)

/-- 'zzlaws_root_b1.FnSplitPathKeepsCallersSlices': WHATEVER THE INPUT: true; the input reads as it did. -/
def fnSplitPathKeepsCallersSlicesSpec : ChangeSpec := { name := "fnSplitPathKeepsCallersSlices", fn := fun _ => fun
  | [d1, d2, d3, d4, d5] => { results := [.lit (.bool true)], args := [d1, d2, d3, d4, d5] }
  | _ => none }
def fnSplitPathKeepsCallersSlicesRow : OpenClaim := { program := "qxb6606428a", sum := "749011124afae35f01b4dad9af9513ee93daf7b33603341a3049a37b0bababf5", func := "example.com/civil-throttle/civil-throttle/zzlaws_root_b1.FnSplitPathKeepsCallersSlices", spec := "fnSplitPathKeepsCallersSlices", inPlace := ["internal/bytealg.IndexByteString"], apart := false }
def FnSplitPathKeepsCallersSlicesSaid : Prop := fnSplitPathKeepsCallersSlicesRow.holds Try.pinned (OpenSpec.ofChange fnSplitPathKeepsCallersSlicesSpec)

/-- ITS FALSE NEIGHBOUR: 'it returns false'. Refute it at one input. -/
def fnSplitPathKeepsCallersSlicesWrong : ChangeSpec := { name := "fnSplitPathKeepsCallersSlices", fn := fun _ => fun
  | [d1, d2, d3, d4, d5] => { results := [.lit (.bool false)], args := [d1, d2, d3, d4, d5] }
  | _ => none }
def FnSplitPathKeepsCallersSlicesWrongFalsely : Prop := fnSplitPathKeepsCallersSlicesRow.holds Try.pinned (OpenSpec.ofChange fnSplitPathKeepsCallersSlicesWrong)

/-- 'zzlaws_root_b1.FnSplitPathDeeperOnlyExtends': WHATEVER THE INPUT: true; the input reads as it did. -/
def fnSplitPathDeeperOnlyExtendsSpec : ChangeSpec := { name := "fnSplitPathDeeperOnlyExtends", fn := fun _ => fun
  | [d1, d2, d3, d4] => { results := [.lit (.bool true)], args := [d1, d2, d3, d4] }
  | _ => none }
def fnSplitPathDeeperOnlyExtendsRow : OpenClaim := { program := "qxb6606428a", sum := "749011124afae35f01b4dad9af9513ee93daf7b33603341a3049a37b0bababf5", func := "example.com/civil-throttle/civil-throttle/zzlaws_root_b1.FnSplitPathDeeperOnlyExtends", spec := "fnSplitPathDeeperOnlyExtends", inPlace := ["internal/bytealg.IndexByteString"], apart := false }
def FnSplitPathDeeperOnlyExtendsSaid : Prop := fnSplitPathDeeperOnlyExtendsRow.holds Try.pinned (OpenSpec.ofChange fnSplitPathDeeperOnlyExtendsSpec)

/-- ITS FALSE NEIGHBOUR: 'it returns false'. Refute it at one input. -/
def fnSplitPathDeeperOnlyExtendsWrong : ChangeSpec := { name := "fnSplitPathDeeperOnlyExtends", fn := fun _ => fun
  | [d1, d2, d3, d4] => { results := [.lit (.bool false)], args := [d1, d2, d3, d4] }
  | _ => none }
def FnSplitPathDeeperOnlyExtendsWrongFalsely : Prop := fnSplitPathDeeperOnlyExtendsRow.holds Try.pinned (OpenSpec.ofChange fnSplitPathDeeperOnlyExtendsWrong)

end Rows
end Go.Proofs.Qxb6606428a
