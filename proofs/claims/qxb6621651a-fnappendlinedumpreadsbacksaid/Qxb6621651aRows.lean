/-
  No cell of these rows narrows 'for every input' (looked for: loops, veiled, ifaces, maps, wideKeys, modest, calm, conditions, laid).
  DERIVED. THE GIVEN ROWS OF THIS SEAT. 2 by the template 'for every input the law returns true; each argument reads behind the call as it read before'; 0 by the template 'total and deterministic' (their statements: Qxb6621651aTotals.lean).
  GIVEN WITH THE SEED: the statements are not yours to turn. If you find one false, say at which input.
  Laid BY PROGRAM, IN A SANDBOX (cutbox-rows.mjs): the forced cells as the released guide's own fill.sh prints them over the translation 97b3715984e61de1… (all of the seat's roots in one cut). By AI agents, Wed Nov 11 2026. No macro, syntax, notation, axiom, sorry.
-/
import Derived.Test.Qxb6621651aChecked
import GoSem.Claim
import GoSem.ClaimJoined
import GoSem.ClaimMapViews
import Derived.JoinedTies
import Derived.KernelRfl
namespace Go.Proofs.Qxb6621651a
/- THE CELL 'sum', in the pinned program and in every row, IS THE sha256 OF THE DUMP (.gsa) THAT Qxb6621651aProg.lean LOADS. Nothing in Lean hashes anything: it is a label: what it is worth is what the hold of that sum in a sandbox is worth. -/
noncomputable def Try.pinned : Pinned := { name := "qxb6621651a", sum := "97b3715984e61de15130f1186fb9081994e5056c9e3c8a64d440ec3349ccb54a", checked := Try.checked }
namespace Rows
def none {H : Type} : Left H := { results := [], args := [] }

/-- 'zzlaws_feed_b1.FnAppendLineDumpReadsBack': WHATEVER THE INPUT: true; the input reads as it did. -/
def fnAppendLineDumpReadsBackSpec : ChangeSpec := { name := "fnAppendLineDumpReadsBack", fn := fun _ => fun
  | [d1, d2, d3] => { results := [.lit (.bool true)], args := [d1, d2, d3] }
  | _ => none }
def fnAppendLineDumpReadsBackRow : OpenClaim := { program := "qxb6621651a", sum := "97b3715984e61de15130f1186fb9081994e5056c9e3c8a64d440ec3349ccb54a", func := "example.com/resolvent/resolvent/zzlaws_feed_b1.FnAppendLineDumpReadsBack", spec := "fnAppendLineDumpReadsBack", apart := false }
def FnAppendLineDumpReadsBackSaid : Prop := fnAppendLineDumpReadsBackRow.holds Try.pinned (OpenSpec.ofChange fnAppendLineDumpReadsBackSpec)

/-- ITS FALSE NEIGHBOUR: 'it returns false'. Refute it at one input. -/
def fnAppendLineDumpReadsBackWrong : ChangeSpec := { name := "fnAppendLineDumpReadsBack", fn := fun _ => fun
  | [d1, d2, d3] => { results := [.lit (.bool false)], args := [d1, d2, d3] }
  | _ => none }
def FnAppendLineDumpReadsBackWrongFalsely : Prop := fnAppendLineDumpReadsBackRow.holds Try.pinned (OpenSpec.ofChange fnAppendLineDumpReadsBackWrong)

/-- 'zzlaws_feed_b1.FnAppendLineKeepsPrefixAddsItsBytes': WHATEVER THE INPUT: true; the input reads as it did. -/
def fnAppendLineKeepsPrefixAddsItsBytesSpec : ChangeSpec := { name := "fnAppendLineKeepsPrefixAddsItsBytes", fn := fun _ => fun
  | [d1, d2, d3, d4] => { results := [.lit (.bool true)], args := [d1, d2, d3, d4] }
  | _ => none }
def fnAppendLineKeepsPrefixAddsItsBytesRow : OpenClaim := { program := "qxb6621651a", sum := "97b3715984e61de15130f1186fb9081994e5056c9e3c8a64d440ec3349ccb54a", func := "example.com/resolvent/resolvent/zzlaws_feed_b1.FnAppendLineKeepsPrefixAddsItsBytes", spec := "fnAppendLineKeepsPrefixAddsItsBytes", apart := false }
def FnAppendLineKeepsPrefixAddsItsBytesSaid : Prop := fnAppendLineKeepsPrefixAddsItsBytesRow.holds Try.pinned (OpenSpec.ofChange fnAppendLineKeepsPrefixAddsItsBytesSpec)

/-- ITS FALSE NEIGHBOUR: 'it returns false'. Refute it at one input. -/
def fnAppendLineKeepsPrefixAddsItsBytesWrong : ChangeSpec := { name := "fnAppendLineKeepsPrefixAddsItsBytes", fn := fun _ => fun
  | [d1, d2, d3, d4] => { results := [.lit (.bool false)], args := [d1, d2, d3, d4] }
  | _ => none }
def FnAppendLineKeepsPrefixAddsItsBytesWrongFalsely : Prop := fnAppendLineKeepsPrefixAddsItsBytesRow.holds Try.pinned (OpenSpec.ofChange fnAppendLineKeepsPrefixAddsItsBytesWrong)

end Rows
end Go.Proofs.Qxb6621651a
