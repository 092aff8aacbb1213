/-
  No cell of these rows narrows 'for every input' (looked for: loops, veiled, ifaces, maps, wideKeys, modest, calm, conditions, laid).
  DERIVED. THE GIVEN ROWS OF THIS SEAT. 2 by the template 'for every input the law returns true; each argument reads behind the call as it read before'; 0 by the template 'total and deterministic' (their statements: YbulkatzwTotals.lean).
  GIVEN WITH THE SEED: the statements are not yours to turn. If you find one false, say at which input.
  Laid BY PROGRAM, IN A SANDBOX (cutbox-rows.mjs): the forced cells as the released guide's own fill.sh prints them over the translation fdec810cdfe2a7b3… (all of the seat's roots in one cut). By AI agents, Wed Nov 11 2026. No macro, syntax, notation, axiom, sorry.
-/
import Derived.Test.YbulkatzwChecked
import GoSem.Claim
import GoSem.ClaimJoined
import GoSem.ClaimMapViews
import Derived.JoinedTies
import Derived.KernelRfl
namespace Go.Proofs.Ybulkatzw
/- THE CELL 'sum', in the pinned program and in every row, IS THE sha256 OF THE DUMP (.gsa) THAT YbulkatzwProg.lean LOADS. Nothing in Lean hashes anything: it is a label: what it is worth is what the hold of that sum in a sandbox is worth. -/
noncomputable def Yba.pinned : Pinned := { name := "ybulkatzw", sum := "fdec810cdfe2a7b36cf2e61a1567e3cd60ea05cb25e15a4b026aca0409763931", checked := Yba.checked }
namespace Rows
def none {H : Type} : Left H := { results := [], args := [] }

/-- 'rootsplit.LawS2271BKey': WHATEVER THE INPUT: true; the input reads as it did. -/
def lawS2271BKeySpec : ChangeSpec := { name := "lawS2271BKey", fn := fun _ => fun
  | [d1, d2] => { results := [.lit (.bool true)], args := [d1, d2] }
  | _ => none }
def lawS2271BKeyRow : OpenClaim := { program := "ybulkatzw", sum := "fdec810cdfe2a7b36cf2e61a1567e3cd60ea05cb25e15a4b026aca0409763931", func := "example.com/rootsplit/rootsplit.LawS2271BKey", spec := "lawS2271BKey", inPlace := ["math.Float64bits", "math.Float32bits"], apart := false }
def LawS2271BKeySaid : Prop := lawS2271BKeyRow.holds Yba.pinned (OpenSpec.ofChange lawS2271BKeySpec)

/-- ITS FALSE NEIGHBOUR: 'it returns false'. Refute it at one input. -/
def lawS2271BKeyWrong : ChangeSpec := { name := "lawS2271BKey", fn := fun _ => fun
  | [d1, d2] => { results := [.lit (.bool false)], args := [d1, d2] }
  | _ => none }
def LawS2271BKeyWrongFalsely : Prop := lawS2271BKeyRow.holds Yba.pinned (OpenSpec.ofChange lawS2271BKeyWrong)

/-- 'rootsplit.LawS2271BOrder': WHATEVER THE INPUT: true; the input reads as it did. -/
def lawS2271BOrderSpec : ChangeSpec := { name := "lawS2271BOrder", fn := fun _ => fun
  | [d1, d2] => { results := [.lit (.bool true)], args := [d1, d2] }
  | _ => none }
def lawS2271BOrderRow : OpenClaim := { program := "ybulkatzw", sum := "fdec810cdfe2a7b36cf2e61a1567e3cd60ea05cb25e15a4b026aca0409763931", func := "example.com/rootsplit/rootsplit.LawS2271BOrder", spec := "lawS2271BOrder", inPlace := ["math.Float64bits", "math.Float32bits", "internal/bytealg.Compare"], apart := false }
def LawS2271BOrderSaid : Prop := lawS2271BOrderRow.holds Yba.pinned (OpenSpec.ofChange lawS2271BOrderSpec)

/-- ITS FALSE NEIGHBOUR: 'it returns false'. Refute it at one input. -/
def lawS2271BOrderWrong : ChangeSpec := { name := "lawS2271BOrder", fn := fun _ => fun
  | [d1, d2] => { results := [.lit (.bool false)], args := [d1, d2] }
  | _ => none }
def LawS2271BOrderWrongFalsely : Prop := lawS2271BOrderRow.holds Yba.pinned (OpenSpec.ofChange lawS2271BOrderWrong)

end Rows
end Go.Proofs.Ybulkatzw
