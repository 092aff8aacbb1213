/-
  No cell of these rows narrows 'for every input' (looked for: loops, veiled, ifaces, maps, wideKeys, modest, calm, conditions, laid).
  DERIVED. THE GIVEN ROWS OF THIS SEAT. 1 by the template 'for every input the law returns true; each argument reads behind the call as it read before'; 0 by the template 'total and deterministic' (their statements: YbulkatxeTotals.lean).
  GIVEN WITH THE SEED: the statements are not yours to turn. If you find one false, say at which input.
  Laid BY PROGRAM, IN A SANDBOX (cutbox-rows.mjs): the forced cells as the released guide's own fill.sh prints them over the translation 0ffdc3a838dde016… (all of the seat's roots in one cut). By AI agents, Wed Nov 11 2026. No macro, syntax, notation, axiom, sorry.
-/
import Derived.Test.YbulkatxeChecked
import GoSem.Claim
import GoSem.ClaimJoined
import GoSem.ClaimMapViews
import Derived.JoinedTies
import Derived.KernelRfl
namespace Go.Proofs.Ybulkatxe
/- THE CELL 'sum', in the pinned program and in every row, IS THE sha256 OF THE DUMP (.gsa) THAT YbulkatxeProg.lean LOADS. Nothing in Lean hashes anything: it is a label: what it is worth is what the hold of that sum in a sandbox is worth. -/
noncomputable def Yba.pinned : Pinned := { name := "ybulkatxe", sum := "0ffdc3a838dde0164a56fe98a7a590b882a54e44e311e0d4138477f49713de6b", checked := Yba.checked }
namespace Rows
def none {H : Type} : Left H := { results := [], args := [] }

/-- 'responder.LawS2266CRelease': WHATEVER THE INPUT: true; the input reads as it did. -/
def lawS2266CReleaseSpec : ChangeSpec := { name := "lawS2266CRelease", fn := fun _ => fun
  | [d1, d2] => { results := [.lit (.bool true)], args := [d1, d2] }
  | _ => none }
def lawS2266CReleaseRow : OpenClaim := { program := "ybulkatxe", sum := "0ffdc3a838dde0164a56fe98a7a590b882a54e44e311e0d4138477f49713de6b", func := "example.com/signalbench/signalbench/pkg/responder.LawS2266CRelease", spec := "lawS2266CRelease", plainKeys := false, apart := false }
def LawS2266CReleaseSaid : Prop := lawS2266CReleaseRow.holds Yba.pinned (OpenSpec.ofChange lawS2266CReleaseSpec)

/-- ITS FALSE NEIGHBOUR: 'it returns false'. Refute it at one input. -/
def lawS2266CReleaseWrong : ChangeSpec := { name := "lawS2266CRelease", fn := fun _ => fun
  | [d1, d2] => { results := [.lit (.bool false)], args := [d1, d2] }
  | _ => none }
def LawS2266CReleaseWrongFalsely : Prop := lawS2266CReleaseRow.holds Yba.pinned (OpenSpec.ofChange lawS2266CReleaseWrong)

end Rows
end Go.Proofs.Ybulkatxe
