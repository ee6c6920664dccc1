/-
  No cell of these rows narrows 'for every input' (looked for: loops, veiled, ifaces, maps, wideKeys, modest, calm, conditions, laid).
  DERIVED. THE GIVEN ROWS OF THIS SEAT. 4 by the template 'for every input the law returns true; each argument reads behind the call as it read before'; 0 by the template 'total and deterministic' (their statements: Qxb6609257aTotals.lean).
  GIVEN WITH THE SEED: the statements are not yours to turn. If you find one false, say at which input.
  Laid BY PROGRAM, IN A SANDBOX (cutbox-rows.mjs): the forced cells as the released guide's own fill.sh prints them over the translation a50689a1115817cf… (all of the seat's roots in one cut). By AI agents, Wed Nov 11 2026. No macro, syntax, notation, axiom, sorry.
-/
import Derived.Test.Qxb6609257aChecked
import GoSem.Claim
import GoSem.ClaimJoined
import GoSem.ClaimMapViews
import Derived.JoinedTies
import Derived.KernelRfl
namespace Go.Proofs.Qxb6609257a
/- THE CELL 'sum', in the pinned program and in every row, IS THE sha256 OF THE DUMP (.gsa) THAT Qxb6609257aProg.lean LOADS. Nothing in Lean hashes anything: it is a label: what it is worth is what the hold of that sum in a sandbox is worth. -/
noncomputable def Try.pinned : Pinned := { name := "qxb6609257a", sum := "a50689a1115817cfadf3948668b8f2597bec7e45a11ecc0ee41c278476e69bfb", checked := Try.checked }
namespace Rows
def none {H : Type} : Left H := { results := [], args := [] }

/-- 'zzlaws_root_b1.FnNextQuoteEndModel': WHATEVER THE INPUT: true; the input reads as it did. -/
def fnNextQuoteEndModelSpec : ChangeSpec := { name := "fnNextQuoteEndModel", fn := fun _ => fun
  | [d1, d2, d3, d4, d5, d6] => { results := [.lit (.bool true)], args := [d1, d2, d3, d4, d5, d6] }
  | _ => none }
def fnNextQuoteEndModelRow : OpenClaim := { program := "qxb6609257a", sum := "a50689a1115817cfadf3948668b8f2597bec7e45a11ecc0ee41c278476e69bfb", func := "example.com/dialecta/dialecta/zzlaws_root_b1.FnNextQuoteEndModel", spec := "fnNextQuoteEndModel", inPlace := ["internal/bytealg.IndexByte"], apart := false }
def FnNextQuoteEndModelSaid : Prop := fnNextQuoteEndModelRow.holds Try.pinned (OpenSpec.ofChange fnNextQuoteEndModelSpec)

/-- ITS FALSE NEIGHBOUR: 'it returns false'. Refute it at one input. -/
def fnNextQuoteEndModelWrong : ChangeSpec := { name := "fnNextQuoteEndModel", fn := fun _ => fun
  | [d1, d2, d3, d4, d5, d6] => { results := [.lit (.bool false)], args := [d1, d2, d3, d4, d5, d6] }
  | _ => none }
def FnNextQuoteEndModelWrongFalsely : Prop := fnNextQuoteEndModelRow.holds Try.pinned (OpenSpec.ofChange fnNextQuoteEndModelWrong)

/-- 'zzlaws_root_b1.FnNextQuoteEndPrefixStable': WHATEVER THE INPUT: true; the input reads as it did. -/
def fnNextQuoteEndPrefixStableSpec : ChangeSpec := { name := "fnNextQuoteEndPrefixStable", fn := fun _ => fun
  | [d1, d2, d3, d4, d5, d6] => { results := [.lit (.bool true)], args := [d1, d2, d3, d4, d5, d6] }
  | _ => none }
def fnNextQuoteEndPrefixStableRow : OpenClaim := { program := "qxb6609257a", sum := "a50689a1115817cfadf3948668b8f2597bec7e45a11ecc0ee41c278476e69bfb", func := "example.com/dialecta/dialecta/zzlaws_root_b1.FnNextQuoteEndPrefixStable", spec := "fnNextQuoteEndPrefixStable", inPlace := ["internal/bytealg.IndexByte"], apart := false }
def FnNextQuoteEndPrefixStableSaid : Prop := fnNextQuoteEndPrefixStableRow.holds Try.pinned (OpenSpec.ofChange fnNextQuoteEndPrefixStableSpec)

/-- ITS FALSE NEIGHBOUR: 'it returns false'. Refute it at one input. -/
def fnNextQuoteEndPrefixStableWrong : ChangeSpec := { name := "fnNextQuoteEndPrefixStable", fn := fun _ => fun
  | [d1, d2, d3, d4, d5, d6] => { results := [.lit (.bool false)], args := [d1, d2, d3, d4, d5, d6] }
  | _ => none }
def FnNextQuoteEndPrefixStableWrongFalsely : Prop := fnNextQuoteEndPrefixStableRow.holds Try.pinned (OpenSpec.ofChange fnNextQuoteEndPrefixStableWrong)

/-- 'zzlaws_root_b1.FnQuotedEndModel': WHATEVER THE INPUT: true; the input reads as it did. -/
def fnQuotedEndModelSpec : ChangeSpec := { name := "fnQuotedEndModel", fn := fun _ => fun
  | [d1, d2, d3, d4, d5, d6] => { results := [.lit (.bool true)], args := [d1, d2, d3, d4, d5, d6] }
  | _ => none }
def fnQuotedEndModelRow : OpenClaim := { program := "qxb6609257a", sum := "a50689a1115817cfadf3948668b8f2597bec7e45a11ecc0ee41c278476e69bfb", func := "example.com/dialecta/dialecta/zzlaws_root_b1.FnQuotedEndModel", spec := "fnQuotedEndModel", inPlace := ["internal/bytealg.IndexByte"], apart := false }
def FnQuotedEndModelSaid : Prop := fnQuotedEndModelRow.holds Try.pinned (OpenSpec.ofChange fnQuotedEndModelSpec)

/-- ITS FALSE NEIGHBOUR: 'it returns false'. Refute it at one input. -/
def fnQuotedEndModelWrong : ChangeSpec := { name := "fnQuotedEndModel", fn := fun _ => fun
  | [d1, d2, d3, d4, d5, d6] => { results := [.lit (.bool false)], args := [d1, d2, d3, d4, d5, d6] }
  | _ => none }
def FnQuotedEndModelWrongFalsely : Prop := fnQuotedEndModelRow.holds Try.pinned (OpenSpec.ofChange fnQuotedEndModelWrong)

/-- 'zzlaws_root_b1.FnQuotedEndAgainstNextQuoteEnd': WHATEVER THE INPUT: true; the input reads as it did. -/
def fnQuotedEndAgainstNextQuoteEndSpec : ChangeSpec := { name := "fnQuotedEndAgainstNextQuoteEnd", fn := fun _ => fun
  | [d1, d2, d3, d4, d5, d6] => { results := [.lit (.bool true)], args := [d1, d2, d3, d4, d5, d6] }
  | _ => none }
def fnQuotedEndAgainstNextQuoteEndRow : OpenClaim := { program := "qxb6609257a", sum := "a50689a1115817cfadf3948668b8f2597bec7e45a11ecc0ee41c278476e69bfb", func := "example.com/dialecta/dialecta/zzlaws_root_b1.FnQuotedEndAgainstNextQuoteEnd", spec := "fnQuotedEndAgainstNextQuoteEnd", inPlace := ["internal/bytealg.IndexByte"], apart := false }
def FnQuotedEndAgainstNextQuoteEndSaid : Prop := fnQuotedEndAgainstNextQuoteEndRow.holds Try.pinned (OpenSpec.ofChange fnQuotedEndAgainstNextQuoteEndSpec)

/-- ITS FALSE NEIGHBOUR: 'it returns false'. Refute it at one input. -/
def fnQuotedEndAgainstNextQuoteEndWrong : ChangeSpec := { name := "fnQuotedEndAgainstNextQuoteEnd", fn := fun _ => fun
  | [d1, d2, d3, d4, d5, d6] => { results := [.lit (.bool false)], args := [d1, d2, d3, d4, d5, d6] }
  | _ => none }
def FnQuotedEndAgainstNextQuoteEndWrongFalsely : Prop := fnQuotedEndAgainstNextQuoteEndRow.holds Try.pinned (OpenSpec.ofChange fnQuotedEndAgainstNextQuoteEndWrong)

end Rows
end Go.Proofs.Qxb6609257a
