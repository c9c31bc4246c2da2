/-
  No cell of these rows narrows 'for every input' (looked for: loops, veiled, ifaces, maps, wideKeys, modest, calm, conditions, laid).
  DERIVED. THE GIVEN ROWS OF THIS SEAT. 5 by the template 'for every input the law returns true; each argument reads behind the call as it read before'; 0 by the template 'total and deterministic' (their statements: Qxb6617815aTotals.lean).
  GIVEN WITH THE SEED: the statements are not yours to turn. If you find one false, say at which input.
  Laid BY PROGRAM, IN A SANDBOX (cutbox-rows.mjs): the forced cells as the released guide's own fill.sh prints them over the translation 9f892a95e120dd01… (all of the seat's roots in one cut). By AI agents, Wed Nov 11 2026. No macro, syntax, notation, axiom, sorry.
-/
import Derived.Test.Qxb6617815aChecked
import GoSem.Claim
import GoSem.ClaimJoined
import GoSem.ClaimMapViews
import Derived.JoinedTies
import Derived.KernelRfl
namespace Go.Proofs.Qxb6617815a
/- THE CELL 'sum', in the pinned program and in every row, IS THE sha256 OF THE DUMP (.gsa) THAT Qxb6617815aProg.lean LOADS. Nothing in Lean hashes anything: it is a label: what it is worth is what the hold of that sum in a sandbox is worth. -/
noncomputable def Try.pinned : Pinned := { name := "qxb6617815a", sum := "9f892a95e120dd01d674a17e04cf782d469f4b70ac4fbecd1a2f79dbe7824c75", checked := Try.checked }
namespace Rows
def none {H : Type} : Left H := { results := [], args := [] }

/-- 'zzlaws_root_b1.FnHexUnitModel': WHATEVER THE INPUT: true; the input reads as it did. -/
def fnHexUnitModelSpec : ChangeSpec := { name := "fnHexUnitModel", fn := fun _ => fun
  | [d] => { results := [.lit (.bool true)], args := [d] }
  | _ => none }
def fnHexUnitModelRow : OpenClaim := { program := "qxb6617815a", sum := "9f892a95e120dd01d674a17e04cf782d469f4b70ac4fbecd1a2f79dbe7824c75", func := "example.com/countersign/countersign/zzlaws_root_b1.FnHexUnitModel", spec := "fnHexUnitModel", apart := false }
def FnHexUnitModelSaid : Prop := fnHexUnitModelRow.holds Try.pinned (OpenSpec.ofChange fnHexUnitModelSpec)

/-- ITS FALSE NEIGHBOUR: 'it returns false'. Refute it at one input. -/
def fnHexUnitModelWrong : ChangeSpec := { name := "fnHexUnitModel", fn := fun _ => fun
  | [d] => { results := [.lit (.bool false)], args := [d] }
  | _ => none }
def FnHexUnitModelWrongFalsely : Prop := fnHexUnitModelRow.holds Try.pinned (OpenSpec.ofChange fnHexUnitModelWrong)

/-- 'zzlaws_root_b1.FnHexUnitSplit': WHATEVER THE INPUT: true; the input reads as it did. -/
def fnHexUnitSplitSpec : ChangeSpec := { name := "fnHexUnitSplit", fn := fun _ => fun
  | [d1, d2] => { results := [.lit (.bool true)], args := [d1, d2] }
  | _ => none }
def fnHexUnitSplitRow : OpenClaim := { program := "qxb6617815a", sum := "9f892a95e120dd01d674a17e04cf782d469f4b70ac4fbecd1a2f79dbe7824c75", func := "example.com/countersign/countersign/zzlaws_root_b1.FnHexUnitSplit", spec := "fnHexUnitSplit", apart := false }
def FnHexUnitSplitSaid : Prop := fnHexUnitSplitRow.holds Try.pinned (OpenSpec.ofChange fnHexUnitSplitSpec)

/-- ITS FALSE NEIGHBOUR: 'it returns false'. Refute it at one input. -/
def fnHexUnitSplitWrong : ChangeSpec := { name := "fnHexUnitSplit", fn := fun _ => fun
  | [d1, d2] => { results := [.lit (.bool false)], args := [d1, d2] }
  | _ => none }
def FnHexUnitSplitWrongFalsely : Prop := fnHexUnitSplitRow.holds Try.pinned (OpenSpec.ofChange fnHexUnitSplitWrong)

/-- 'zzlaws_root_b1.FnSkipSpaceSplit': WHATEVER THE INPUT: true; the input reads as it did. -/
def fnSkipSpaceSplitSpec : ChangeSpec := { name := "fnSkipSpaceSplit", fn := fun _ => fun
  | [d1, d2, d3] => { results := [.lit (.bool true)], args := [d1, d2, d3] }
  | _ => none }
def fnSkipSpaceSplitRow : OpenClaim := { program := "qxb6617815a", sum := "9f892a95e120dd01d674a17e04cf782d469f4b70ac4fbecd1a2f79dbe7824c75", func := "example.com/countersign/countersign/zzlaws_root_b1.FnSkipSpaceSplit", spec := "fnSkipSpaceSplit", apart := false }
def FnSkipSpaceSplitSaid : Prop := fnSkipSpaceSplitRow.holds Try.pinned (OpenSpec.ofChange fnSkipSpaceSplitSpec)

/-- ITS FALSE NEIGHBOUR: 'it returns false'. Refute it at one input. -/
def fnSkipSpaceSplitWrong : ChangeSpec := { name := "fnSkipSpaceSplit", fn := fun _ => fun
  | [d1, d2, d3] => { results := [.lit (.bool false)], args := [d1, d2, d3] }
  | _ => none }
def FnSkipSpaceSplitWrongFalsely : Prop := fnSkipSpaceSplitRow.holds Try.pinned (OpenSpec.ofChange fnSkipSpaceSplitWrong)

/-- 'zzlaws_root_b1.FnSkipStringFirstUnescapedQuote': WHATEVER THE INPUT: true; the input reads as it did. -/
def fnSkipStringFirstUnescapedQuoteSpec : ChangeSpec := { name := "fnSkipStringFirstUnescapedQuote", fn := fun _ => fun
  | [d1, d2] => { results := [.lit (.bool true)], args := [d1, d2] }
  | _ => none }
def fnSkipStringFirstUnescapedQuoteRow : OpenClaim := { program := "qxb6617815a", sum := "9f892a95e120dd01d674a17e04cf782d469f4b70ac4fbecd1a2f79dbe7824c75", func := "example.com/countersign/countersign/zzlaws_root_b1.FnSkipStringFirstUnescapedQuote", spec := "fnSkipStringFirstUnescapedQuote", inPlace := ["internal/bytealg.IndexByte"], apart := false }
def FnSkipStringFirstUnescapedQuoteSaid : Prop := fnSkipStringFirstUnescapedQuoteRow.holds Try.pinned (OpenSpec.ofChange fnSkipStringFirstUnescapedQuoteSpec)

/-- ITS FALSE NEIGHBOUR: 'it returns false'. Refute it at one input. -/
def fnSkipStringFirstUnescapedQuoteWrong : ChangeSpec := { name := "fnSkipStringFirstUnescapedQuote", fn := fun _ => fun
  | [d1, d2] => { results := [.lit (.bool false)], args := [d1, d2] }
  | _ => none }
def FnSkipStringFirstUnescapedQuoteWrongFalsely : Prop := fnSkipStringFirstUnescapedQuoteRow.holds Try.pinned (OpenSpec.ofChange fnSkipStringFirstUnescapedQuoteWrong)

/-- 'zzlaws_root_b1.FnSkipStringInContext': WHATEVER THE INPUT: true; the input reads as it did. -/
def fnSkipStringInContextSpec : ChangeSpec := { name := "fnSkipStringInContext", fn := fun _ => fun
  | [d1, d2, d3, d4] => { results := [.lit (.bool true)], args := [d1, d2, d3, d4] }
  | _ => none }
def fnSkipStringInContextRow : OpenClaim := { program := "qxb6617815a", sum := "9f892a95e120dd01d674a17e04cf782d469f4b70ac4fbecd1a2f79dbe7824c75", func := "example.com/countersign/countersign/zzlaws_root_b1.FnSkipStringInContext", spec := "fnSkipStringInContext", inPlace := ["internal/bytealg.IndexByte"], apart := false }
def FnSkipStringInContextSaid : Prop := fnSkipStringInContextRow.holds Try.pinned (OpenSpec.ofChange fnSkipStringInContextSpec)

/-- ITS FALSE NEIGHBOUR: 'it returns false'. Refute it at one input. -/
def fnSkipStringInContextWrong : ChangeSpec := { name := "fnSkipStringInContext", fn := fun _ => fun
  | [d1, d2, d3, d4] => { results := [.lit (.bool false)], args := [d1, d2, d3, d4] }
  | _ => none }
def FnSkipStringInContextWrongFalsely : Prop := fnSkipStringInContextRow.holds Try.pinned (OpenSpec.ofChange fnSkipStringInContextWrong)

end Rows
end Go.Proofs.Qxb6617815a
