/-
  No cell of these rows narrows 'for every input' (looked for: loops, veiled, ifaces, maps, wideKeys, modest, calm, conditions, laid).
  DERIVED. THE GIVEN ROWS OF THIS SEAT. 1 by the template 'for every input the law returns true; each argument reads behind the call as it read before'; 0 by the template 'total and deterministic' (their statements: Qxb6619694aTotals.lean).
  GIVEN WITH THE SEED: the statements are not yours to turn. If you find one false, say at which input.
  Laid BY PROGRAM, IN A SANDBOX (cutbox-rows.mjs): the forced cells as the released guide's own fill.sh prints them over the translation 13164aa59ae80c6d… (all of the seat's roots in one cut). By AI agents, Wed Nov 11 2026. No macro, syntax, notation, axiom, sorry.
-/
import Derived.Test.Qxb6619694aChecked
import GoSem.Claim
import GoSem.ClaimJoined
import GoSem.ClaimMapViews
import Derived.JoinedTies
import Derived.KernelRfl
namespace Go.Proofs.Qxb6619694a
/- THE CELL 'sum', in the pinned program and in every row, IS THE sha256 OF THE DUMP (.gsa) THAT Qxb6619694aProg.lean LOADS. Nothing in Lean hashes anything: it is a label: what it is worth is what the hold of that sum in a sandbox is worth. -/
noncomputable def Try.pinned : Pinned := { name := "qxb6619694a", sum := "13164aa59ae80c6d1ec3a20190cef59166def1e7132cbec096945e1a8ab00f90", checked := Try.checked }
namespace Rows
def none {H : Type} : Left H := { results := [], args := [] }

/-- 'zzlaws_internal_config_b1.FnFieldsLeastMaskKeepingCallerWhole': WHATEVER THE INPUT: true; the input reads as it did. -/
def fnFieldsLeastMaskKeepingCallerWholeSpec : ChangeSpec := { name := "fnFieldsLeastMaskKeepingCallerWhole", fn := fun _ => fun
  | [d1, d2, d3] => { results := [.lit (.bool true)], args := [d1, d2, d3] }
  | _ => none }
def fnFieldsLeastMaskKeepingCallerWholeRow : OpenClaim := { program := "qxb6619694a", sum := "13164aa59ae80c6d1ec3a20190cef59166def1e7132cbec096945e1a8ab00f90", func := "example.com/purser/purser/zzlaws_internal_config_b1.FnFieldsLeastMaskKeepingCallerWhole", spec := "fnFieldsLeastMaskKeepingCallerWhole", apart := false }
def FnFieldsLeastMaskKeepingCallerWholeSaid : Prop := fnFieldsLeastMaskKeepingCallerWholeRow.holds Try.pinned (OpenSpec.ofChange fnFieldsLeastMaskKeepingCallerWholeSpec)

/-- ITS FALSE NEIGHBOUR: 'it returns false'. Refute it at one input. -/
def fnFieldsLeastMaskKeepingCallerWholeWrong : ChangeSpec := { name := "fnFieldsLeastMaskKeepingCallerWhole", fn := fun _ => fun
  | [d1, d2, d3] => { results := [.lit (.bool false)], args := [d1, d2, d3] }
  | _ => none }
def FnFieldsLeastMaskKeepingCallerWholeWrongFalsely : Prop := fnFieldsLeastMaskKeepingCallerWholeRow.holds Try.pinned (OpenSpec.ofChange fnFieldsLeastMaskKeepingCallerWholeWrong)

end Rows
end Go.Proofs.Qxb6619694a
