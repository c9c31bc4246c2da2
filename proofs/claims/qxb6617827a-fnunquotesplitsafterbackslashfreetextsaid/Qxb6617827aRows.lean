/-
  No cell of these rows narrows 'for every input' (looked for: loops, veiled, ifaces, maps, wideKeys, modest, calm, conditions, laid).
  DERIVED. THE GIVEN ROWS OF THIS SEAT. 4 by the template 'for every input the law returns true; each argument reads behind the call as it read before'; 0 by the template 'total and deterministic' (their statements: Qxb6617827aTotals.lean).
  GIVEN WITH THE SEED: the statements are not yours to turn. If you find one false, say at which input.
  Laid BY PROGRAM, IN A SANDBOX (cutbox-rows.mjs): the forced cells as the released guide's own fill.sh prints them over the translation cd14bfa5b2a4d511… (all of the seat's roots in one cut). By AI agents, Wed Nov 11 2026. No macro, syntax, notation, axiom, sorry.
-/
import Derived.Test.Qxb6617827aChecked
import GoSem.Claim
import GoSem.ClaimJoined
import GoSem.ClaimMapViews
import Derived.JoinedTies
import Derived.KernelRfl
namespace Go.Proofs.Qxb6617827a
/- THE CELL 'sum', in the pinned program and in every row, IS THE sha256 OF THE DUMP (.gsa) THAT Qxb6617827aProg.lean LOADS. Nothing in Lean hashes anything: it is a label: what it is worth is what the hold of that sum in a sandbox is worth. -/
noncomputable def Try.pinned : Pinned := { name := "qxb6617827a", sum := "cd14bfa5b2a4d51121850f22696a4fbd44f7c25d848e30ed28296eebfce3773f", checked := Try.checked }
namespace Rows
def none {H : Type} : Left H := { results := [], args := [] }

/-- 'zzlaws_internal_origin_b1.FnCutUnquotedMatchesQuotedStringGrammar': WHATEVER THE INPUT: true; the input reads as it did. -/
def fnCutUnquotedMatchesQuotedStringGrammarSpec : ChangeSpec := { name := "fnCutUnquotedMatchesQuotedStringGrammar", fn := fun _ => fun
  | [d1, d2] => { results := [.lit (.bool true)], args := [d1, d2] }
  | _ => none }
def fnCutUnquotedMatchesQuotedStringGrammarRow : OpenClaim := { program := "qxb6617827a", sum := "cd14bfa5b2a4d51121850f22696a4fbd44f7c25d848e30ed28296eebfce3773f", func := "example.com/tetherline/tetherline/zzlaws_internal_origin_b1.FnCutUnquotedMatchesQuotedStringGrammar", spec := "fnCutUnquotedMatchesQuotedStringGrammar", apart := false }
def FnCutUnquotedMatchesQuotedStringGrammarSaid : Prop := fnCutUnquotedMatchesQuotedStringGrammarRow.holds Try.pinned (OpenSpec.ofChange fnCutUnquotedMatchesQuotedStringGrammarSpec)

/-- ITS FALSE NEIGHBOUR: 'it returns false'. Refute it at one input. -/
def fnCutUnquotedMatchesQuotedStringGrammarWrong : ChangeSpec := { name := "fnCutUnquotedMatchesQuotedStringGrammar", fn := fun _ => fun
  | [d1, d2] => { results := [.lit (.bool false)], args := [d1, d2] }
  | _ => none }
def FnCutUnquotedMatchesQuotedStringGrammarWrongFalsely : Prop := fnCutUnquotedMatchesQuotedStringGrammarRow.holds Try.pinned (OpenSpec.ofChange fnCutUnquotedMatchesQuotedStringGrammarWrong)

/-- 'zzlaws_internal_origin_b1.FnCutUnquotedRoundTripAndPlainCut': WHATEVER THE INPUT: true; the input reads as it did. -/
def fnCutUnquotedRoundTripAndPlainCutSpec : ChangeSpec := { name := "fnCutUnquotedRoundTripAndPlainCut", fn := fun _ => fun
  | [d1, d2, d3] => { results := [.lit (.bool true)], args := [d1, d2, d3] }
  | _ => none }
def fnCutUnquotedRoundTripAndPlainCutRow : OpenClaim := { program := "qxb6617827a", sum := "cd14bfa5b2a4d51121850f22696a4fbd44f7c25d848e30ed28296eebfce3773f", func := "example.com/tetherline/tetherline/zzlaws_internal_origin_b1.FnCutUnquotedRoundTripAndPlainCut", spec := "fnCutUnquotedRoundTripAndPlainCut", apart := false }
def FnCutUnquotedRoundTripAndPlainCutSaid : Prop := fnCutUnquotedRoundTripAndPlainCutRow.holds Try.pinned (OpenSpec.ofChange fnCutUnquotedRoundTripAndPlainCutSpec)

/-- ITS FALSE NEIGHBOUR: 'it returns false'. Refute it at one input. -/
def fnCutUnquotedRoundTripAndPlainCutWrong : ChangeSpec := { name := "fnCutUnquotedRoundTripAndPlainCut", fn := fun _ => fun
  | [d1, d2, d3] => { results := [.lit (.bool false)], args := [d1, d2, d3] }
  | _ => none }
def FnCutUnquotedRoundTripAndPlainCutWrongFalsely : Prop := fnCutUnquotedRoundTripAndPlainCutRow.holds Try.pinned (OpenSpec.ofChange fnCutUnquotedRoundTripAndPlainCutWrong)

/-- 'zzlaws_internal_origin_b1.FnUnquoteMatchesRunCopyModel': WHATEVER THE INPUT: true; the input reads as it did. -/
def fnUnquoteMatchesRunCopyModelSpec : ChangeSpec := { name := "fnUnquoteMatchesRunCopyModel", fn := fun _ => fun
  | [d] => { results := [.lit (.bool true)], args := [d] }
  | _ => none }
def fnUnquoteMatchesRunCopyModelRow : OpenClaim := { program := "qxb6617827a", sum := "cd14bfa5b2a4d51121850f22696a4fbd44f7c25d848e30ed28296eebfce3773f", func := "example.com/tetherline/tetherline/zzlaws_internal_origin_b1.FnUnquoteMatchesRunCopyModel", spec := "fnUnquoteMatchesRunCopyModel", inPlace := ["internal/abi.NoEscape"], apart := false }
def FnUnquoteMatchesRunCopyModelSaid : Prop := fnUnquoteMatchesRunCopyModelRow.holds Try.pinned (OpenSpec.ofChange fnUnquoteMatchesRunCopyModelSpec)

/-- ITS FALSE NEIGHBOUR: 'it returns false'. Refute it at one input. -/
def fnUnquoteMatchesRunCopyModelWrong : ChangeSpec := { name := "fnUnquoteMatchesRunCopyModel", fn := fun _ => fun
  | [d] => { results := [.lit (.bool false)], args := [d] }
  | _ => none }
def FnUnquoteMatchesRunCopyModelWrongFalsely : Prop := fnUnquoteMatchesRunCopyModelRow.holds Try.pinned (OpenSpec.ofChange fnUnquoteMatchesRunCopyModelWrong)

/-- 'zzlaws_internal_origin_b1.FnUnquoteSplitsAfterBackslashFreeText': WHATEVER THE INPUT: true; the input reads as it did. -/
def fnUnquoteSplitsAfterBackslashFreeTextSpec : ChangeSpec := { name := "fnUnquoteSplitsAfterBackslashFreeText", fn := fun _ => fun
  | [d1, d2, d3] => { results := [.lit (.bool true)], args := [d1, d2, d3] }
  | _ => none }
def fnUnquoteSplitsAfterBackslashFreeTextRow : OpenClaim := { program := "qxb6617827a", sum := "cd14bfa5b2a4d51121850f22696a4fbd44f7c25d848e30ed28296eebfce3773f", func := "example.com/tetherline/tetherline/zzlaws_internal_origin_b1.FnUnquoteSplitsAfterBackslashFreeText", spec := "fnUnquoteSplitsAfterBackslashFreeText", inPlace := ["internal/abi.NoEscape"], apart := false }
def FnUnquoteSplitsAfterBackslashFreeTextSaid : Prop := fnUnquoteSplitsAfterBackslashFreeTextRow.holds Try.pinned (OpenSpec.ofChange fnUnquoteSplitsAfterBackslashFreeTextSpec)

/-- ITS FALSE NEIGHBOUR: 'it returns false'. Refute it at one input. -/
def fnUnquoteSplitsAfterBackslashFreeTextWrong : ChangeSpec := { name := "fnUnquoteSplitsAfterBackslashFreeText", fn := fun _ => fun
  | [d1, d2, d3] => { results := [.lit (.bool false)], args := [d1, d2, d3] }
  | _ => none }
def FnUnquoteSplitsAfterBackslashFreeTextWrongFalsely : Prop := fnUnquoteSplitsAfterBackslashFreeTextRow.holds Try.pinned (OpenSpec.ofChange fnUnquoteSplitsAfterBackslashFreeTextWrong)

end Rows
end Go.Proofs.Qxb6617827a
