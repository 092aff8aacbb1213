/-
  No cell of these rows narrows 'for every input' (looked for: loops, veiled, ifaces, maps, wideKeys, modest, calm, conditions, laid).
  DERIVED. THE GIVEN ROWS OF THIS SEAT. 3 by the template 'for every input the law returns true; each argument reads behind the call as it read before'; 0 by the template 'total and deterministic' (their statements: YbulkatziTotals.lean).
  GIVEN WITH THE SEED: the statements are not yours to turn. If you find one false, say at which input.
  Laid BY PROGRAM, IN A SANDBOX (cutbox-rows.mjs): the forced cells as the released guide's own fill.sh prints them over the translation 4a07b1ed7e101bc7… (all of the seat's roots in one cut). By AI agents, Wed Nov 11 2026. No macro, syntax, notation, axiom, sorry.
-/
import Derived.Test.YbulkatziChecked
import GoSem.Claim
import GoSem.ClaimJoined
import GoSem.ClaimMapViews
import Derived.JoinedTies
import Derived.KernelRfl
namespace Go.Proofs.Ybulkatzi
/- THE CELL 'sum', in the pinned program and in every row, IS THE sha256 OF THE DUMP (.gsa) THAT YbulkatziProg.lean LOADS. Nothing in Lean hashes anything: it is a label: what it is worth is what the hold of that sum in a sandbox is worth. -/
noncomputable def Yba.pinned : Pinned := { name := "ybulkatzi", sum := "4a07b1ed7e101bc7e6a7fa261193398d594a110e6a34aa56a54534bc04fb82e5", checked := Yba.checked }
namespace Rows
def none {H : Type} : Left H := { results := [], args := [] }

/-- 'quorumcast.LawS2270CShape': WHATEVER THE INPUT: true; the input reads as it did. -/
def lawS2270CShapeSpec : ChangeSpec := { name := "lawS2270CShape", fn := fun _ => fun
  | [d] => { results := [.lit (.bool true)], args := [d] }
  | _ => none }
def lawS2270CShapeRow : OpenClaim := { program := "ybulkatzi", sum := "4a07b1ed7e101bc7e6a7fa261193398d594a110e6a34aa56a54534bc04fb82e5", func := "example.com/quorumcast/quorumcast.LawS2270CShape", spec := "lawS2270CShape", named := ["encoding/binary.BigEndian"], apart := false }
def LawS2270CShapeSaid : Prop := lawS2270CShapeRow.holds Yba.pinned (OpenSpec.ofChange lawS2270CShapeSpec)

/-- ITS FALSE NEIGHBOUR: 'it returns false'. Refute it at one input. -/
def lawS2270CShapeWrong : ChangeSpec := { name := "lawS2270CShape", fn := fun _ => fun
  | [d] => { results := [.lit (.bool false)], args := [d] }
  | _ => none }
def LawS2270CShapeWrongFalsely : Prop := lawS2270CShapeRow.holds Yba.pinned (OpenSpec.ofChange lawS2270CShapeWrong)

/-- 'quorumcast.LawS2270CConcat': WHATEVER THE INPUT: true; the input reads as it did. -/
def lawS2270CConcatSpec : ChangeSpec := { name := "lawS2270CConcat", fn := fun _ => fun
  | [d1, d2] => { results := [.lit (.bool true)], args := [d1, d2] }
  | _ => none }
def lawS2270CConcatRow : OpenClaim := { program := "ybulkatzi", sum := "4a07b1ed7e101bc7e6a7fa261193398d594a110e6a34aa56a54534bc04fb82e5", func := "example.com/quorumcast/quorumcast.LawS2270CConcat", spec := "lawS2270CConcat", named := ["encoding/binary.BigEndian"], apart := false }
def LawS2270CConcatSaid : Prop := lawS2270CConcatRow.holds Yba.pinned (OpenSpec.ofChange lawS2270CConcatSpec)

/-- ITS FALSE NEIGHBOUR: 'it returns false'. Refute it at one input. -/
def lawS2270CConcatWrong : ChangeSpec := { name := "lawS2270CConcat", fn := fun _ => fun
  | [d1, d2] => { results := [.lit (.bool false)], args := [d1, d2] }
  | _ => none }
def LawS2270CConcatWrongFalsely : Prop := lawS2270CConcatRow.holds Yba.pinned (OpenSpec.ofChange lawS2270CConcatWrong)

/-- 'quorumcast.LawS2270CInjective': WHATEVER THE INPUT: true; the input reads as it did. -/
def lawS2270CInjectiveSpec : ChangeSpec := { name := "lawS2270CInjective", fn := fun _ => fun
  | [d1, d2, d3, d4] => { results := [.lit (.bool true)], args := [d1, d2, d3, d4] }
  | _ => none }
def lawS2270CInjectiveRow : OpenClaim := { program := "ybulkatzi", sum := "4a07b1ed7e101bc7e6a7fa261193398d594a110e6a34aa56a54534bc04fb82e5", func := "example.com/quorumcast/quorumcast.LawS2270CInjective", spec := "lawS2270CInjective", named := ["encoding/binary.BigEndian"], apart := false }
def LawS2270CInjectiveSaid : Prop := lawS2270CInjectiveRow.holds Yba.pinned (OpenSpec.ofChange lawS2270CInjectiveSpec)

/-- ITS FALSE NEIGHBOUR: 'it returns false'. Refute it at one input. -/
def lawS2270CInjectiveWrong : ChangeSpec := { name := "lawS2270CInjective", fn := fun _ => fun
  | [d1, d2, d3, d4] => { results := [.lit (.bool false)], args := [d1, d2, d3, d4] }
  | _ => none }
def LawS2270CInjectiveWrongFalsely : Prop := lawS2270CInjectiveRow.holds Yba.pinned (OpenSpec.ofChange lawS2270CInjectiveWrong)

end Rows
end Go.Proofs.Ybulkatzi
