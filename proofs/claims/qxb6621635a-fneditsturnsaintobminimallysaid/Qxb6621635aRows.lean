/-
  No cell of these rows narrows 'for every input' (looked for: loops, veiled, ifaces, maps, wideKeys, modest, calm, conditions, laid).
  DERIVED. THE GIVEN ROWS OF THIS SEAT. 1 by the template 'for every input the law returns true; each argument reads behind the call as it read before'; 0 by the template 'total and deterministic' (their statements: Qxb6621635aTotals.lean).
  GIVEN WITH THE SEED: the statements are not yours to turn. If you find one false, say at which input.
  Laid BY PROGRAM, IN A SANDBOX (cutbox-rows.mjs): the forced cells as the released guide's own fill.sh prints them over the translation 0a0e870273f2731e… (all of the seat's roots in one cut). By AI agents, Wed Nov 11 2026. No macro, syntax, notation, axiom, sorry.
-/
import Derived.Test.Qxb6621635aChecked
import GoSem.Claim
import GoSem.ClaimJoined
import GoSem.ClaimMapViews
import Derived.JoinedTies
import Derived.KernelRfl
namespace Go.Proofs.Qxb6621635a
/- THE CELL 'sum', in the pinned program and in every row, IS THE sha256 OF THE DUMP (.gsa) THAT Qxb6621635aProg.lean LOADS. Nothing in Lean hashes anything: it is a label: what it is worth is what the hold of that sum in a sandbox is worth. -/
noncomputable def Try.pinned : Pinned := { name := "qxb6621635a", sum := "0a0e870273f2731ea3704d3072d1fe7313b4321cbfd8fd7f53c0c9470debb5c6", checked := Try.checked }
namespace Rows
def none {H : Type} : Left H := { results := [], args := [] }

/-- 'zzlaws_pkg_wire_b1.FnEditsTurnsAIntoBMinimally': WHATEVER THE INPUT: true; the input reads as it did. -/
def fnEditsTurnsAIntoBMinimallySpec : ChangeSpec := { name := "fnEditsTurnsAIntoBMinimally", fn := fun _ => fun
  | [d1, d2] => { results := [.lit (.bool true)], args := [d1, d2] }
  | _ => none }
def fnEditsTurnsAIntoBMinimallyRow : OpenClaim := { program := "qxb6621635a", sum := "0a0e870273f2731ea3704d3072d1fe7313b4321cbfd8fd7f53c0c9470debb5c6", func := "example.com/weftnode/weftnode/zzlaws_pkg_wire_b1.FnEditsTurnsAIntoBMinimally", spec := "fnEditsTurnsAIntoBMinimally", unfollowed := true, recurses := true, apart := false }
def FnEditsTurnsAIntoBMinimallySaid : Prop := fnEditsTurnsAIntoBMinimallyRow.holds Try.pinned (OpenSpec.ofChange fnEditsTurnsAIntoBMinimallySpec)

/-- ITS FALSE NEIGHBOUR: 'it returns false'. Refute it at one input. -/
def fnEditsTurnsAIntoBMinimallyWrong : ChangeSpec := { name := "fnEditsTurnsAIntoBMinimally", fn := fun _ => fun
  | [d1, d2] => { results := [.lit (.bool false)], args := [d1, d2] }
  | _ => none }
def FnEditsTurnsAIntoBMinimallyWrongFalsely : Prop := fnEditsTurnsAIntoBMinimallyRow.holds Try.pinned (OpenSpec.ofChange fnEditsTurnsAIntoBMinimallyWrong)

end Rows
end Go.Proofs.Qxb6621635a
