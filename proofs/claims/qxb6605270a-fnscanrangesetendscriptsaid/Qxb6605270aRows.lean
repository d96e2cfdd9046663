/-
  No cell of these rows narrows 'for every input' (looked for: loops, veiled, ifaces, maps, wideKeys, modest, calm, conditions, laid).
  DERIVED. THE GIVEN ROWS OF THIS SEAT. 1 by the template 'for every input the law returns true; each argument reads behind the call as it read before'; 0 by the template 'total and deterministic' (their statements: Qxb6605270aTotals.lean).
  GIVEN WITH THE SEED: the statements are not yours to turn. If you find one false, say at which input.
  Laid BY PROGRAM, IN A SANDBOX (cutbox-rows.mjs): the forced cells as the released guide's own fill.sh prints them over the translation 1f7db9ced984462b… (all of the seat's roots in one cut). By AI agents, Wed Nov 11 2026. No macro, syntax, notation, axiom, sorry.
-/
import Derived.Test.Qxb6605270aChecked
import GoSem.Claim
import GoSem.ClaimJoined
import GoSem.ClaimMapViews
import Derived.JoinedTies
import Derived.KernelRfl
namespace Go.Proofs.Qxb6605270a
/- THE CELL 'sum', in the pinned program and in every row, IS THE sha256 OF THE DUMP (.gsa) THAT Qxb6605270aProg.lean LOADS. Nothing in Lean hashes anything: it is a label: what it is worth is what the hold of that sum in a sandbox is worth. -/
noncomputable def Try.pinned : Pinned := { name := "qxb6605270a", sum := "1f7db9ced984462b0bb1d79f5d6525534d328ee061d10fe03f87c023826c8054", checked := Try.checked }
namespace Rows
def none {H : Type} : Left H := { results := [], args := [] }

/-- 'zzlaws_internal_protocol_b1.FnScanRangeSetEndScript': WHATEVER THE INPUT: true; the input reads as it did. -/
def fnScanRangeSetEndScriptSpec : ChangeSpec := { name := "fnScanRangeSetEndScript", fn := fun _ => fun
  | [d1, d2, d3, d4, d5] => { results := [.lit (.bool true)], args := [d1, d2, d3, d4, d5] }
  | _ => none }
def fnScanRangeSetEndScriptRow : OpenClaim := { program := "qxb6605270a", sum := "1f7db9ced984462b0bb1d79f5d6525534d328ee061d10fe03f87c023826c8054", func := "example.com/rangewalk/rangewalk/zzlaws_internal_protocol_b1.FnScanRangeSetEndScript", spec := "fnScanRangeSetEndScript", apart := false }
def FnScanRangeSetEndScriptSaid : Prop := fnScanRangeSetEndScriptRow.holds Try.pinned (OpenSpec.ofChange fnScanRangeSetEndScriptSpec)

/-- ITS FALSE NEIGHBOUR: 'it returns false'. Refute it at one input. -/
def fnScanRangeSetEndScriptWrong : ChangeSpec := { name := "fnScanRangeSetEndScript", fn := fun _ => fun
  | [d1, d2, d3, d4, d5] => { results := [.lit (.bool false)], args := [d1, d2, d3, d4, d5] }
  | _ => none }
def FnScanRangeSetEndScriptWrongFalsely : Prop := fnScanRangeSetEndScriptRow.holds Try.pinned (OpenSpec.ofChange fnScanRangeSetEndScriptWrong)

end Rows
end Go.Proofs.Qxb6605270a
