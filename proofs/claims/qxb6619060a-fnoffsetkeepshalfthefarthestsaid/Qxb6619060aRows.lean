/-
  No cell of these rows narrows 'for every input' (looked for: loops, veiled, ifaces, maps, wideKeys, modest, calm, conditions, laid).
  DERIVED. THE GIVEN ROWS OF THIS SEAT. 2 by the template 'for every input the law returns true; each argument reads behind the call as it read before'; 0 by the template 'total and deterministic' (their statements: Qxb6619060aTotals.lean).
  GIVEN WITH THE SEED: the statements are not yours to turn. If you find one false, say at which input.
  Laid BY PROGRAM, IN A SANDBOX (cutbox-rows.mjs): the forced cells as the released guide's own fill.sh prints them over the translation 12e179bcc7d02152… (all of the seat's roots in one cut). By AI agents, Wed Nov 11 2026. No macro, syntax, notation, axiom, sorry.
-/
import Derived.Test.Qxb6619060aChecked
import GoSem.Claim
import GoSem.ClaimJoined
import GoSem.ClaimMapViews
import Derived.JoinedTies
import Derived.KernelRfl
namespace Go.Proofs.Qxb6619060a
/- THE CELL 'sum', in the pinned program and in every row, IS THE sha256 OF THE DUMP (.gsa) THAT Qxb6619060aProg.lean LOADS. Nothing in Lean hashes anything: it is a label: what it is worth is what the hold of that sum in a sandbox is worth. -/
noncomputable def Try.pinned : Pinned := { name := "qxb6619060a", sum := "12e179bcc7d021524af9f98ed39fd9a007cb6b0b4be3040b1f9d32c87ca0135d", checked := Try.checked }
namespace Rows
def none {H : Type} : Left H := { results := [], args := [] }

/-- 'zzlaws_balance_b1.FnLoadsComparePerWeight': WHATEVER THE INPUT: true; the input reads as it did. -/
def fnLoadsComparePerWeightSpec : ChangeSpec := { name := "fnLoadsComparePerWeight", fn := fun _ => fun
  | [d1, d2, d3, d4, d5] => { results := [.lit (.bool true)], args := [d1, d2, d3, d4, d5] }
  | _ => none }
def fnLoadsComparePerWeightRow : OpenClaim := { program := "qxb6619060a", sum := "12e179bcc7d021524af9f98ed39fd9a007cb6b0b4be3040b1f9d32c87ca0135d", func := "example.com/wayt/wayt/zzlaws_balance_b1.FnLoadsComparePerWeight", spec := "fnLoadsComparePerWeight", apart := false }
def FnLoadsComparePerWeightSaid : Prop := fnLoadsComparePerWeightRow.holds Try.pinned (OpenSpec.ofChange fnLoadsComparePerWeightSpec)

/-- ITS FALSE NEIGHBOUR: 'it returns false'. Refute it at one input. -/
def fnLoadsComparePerWeightWrong : ChangeSpec := { name := "fnLoadsComparePerWeight", fn := fun _ => fun
  | [d1, d2, d3, d4, d5] => { results := [.lit (.bool false)], args := [d1, d2, d3, d4, d5] }
  | _ => none }
def FnLoadsComparePerWeightWrongFalsely : Prop := fnLoadsComparePerWeightRow.holds Try.pinned (OpenSpec.ofChange fnLoadsComparePerWeightWrong)

/-- 'zzlaws_balance_b1.FnOffsetKeepsHalfTheFarthest': WHATEVER THE INPUT: true; the input reads as it did. -/
def fnOffsetKeepsHalfTheFarthestSpec : ChangeSpec := { name := "fnOffsetKeepsHalfTheFarthest", fn := fun _ => fun
  | [d1, d2, d3, d4] => { results := [.lit (.bool true)], args := [d1, d2, d3, d4] }
  | _ => none }
def fnOffsetKeepsHalfTheFarthestRow : OpenClaim := { program := "qxb6619060a", sum := "12e179bcc7d021524af9f98ed39fd9a007cb6b0b4be3040b1f9d32c87ca0135d", func := "example.com/wayt/wayt/zzlaws_balance_b1.FnOffsetKeepsHalfTheFarthest", spec := "fnOffsetKeepsHalfTheFarthest", apart := false }
def FnOffsetKeepsHalfTheFarthestSaid : Prop := fnOffsetKeepsHalfTheFarthestRow.holds Try.pinned (OpenSpec.ofChange fnOffsetKeepsHalfTheFarthestSpec)

/-- ITS FALSE NEIGHBOUR: 'it returns false'. Refute it at one input. -/
def fnOffsetKeepsHalfTheFarthestWrong : ChangeSpec := { name := "fnOffsetKeepsHalfTheFarthest", fn := fun _ => fun
  | [d1, d2, d3, d4] => { results := [.lit (.bool false)], args := [d1, d2, d3, d4] }
  | _ => none }
def FnOffsetKeepsHalfTheFarthestWrongFalsely : Prop := fnOffsetKeepsHalfTheFarthestRow.holds Try.pinned (OpenSpec.ofChange fnOffsetKeepsHalfTheFarthestWrong)

end Rows
end Go.Proofs.Qxb6619060a
