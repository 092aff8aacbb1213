/-
  DERIVED. GIVEN WITH THE SEED: THE CARDS: each row of YbulkatxeFmtRows.lean that lists a variable, with what it lists TIED to the program's text (the seventh form; the later family's looks); each row that meets fmt, with fmt's text TOLD by the authors' own Lean function (tested against real Go, not proved from fmt's source: count such statements apart). THE CARD IS WHAT COUNTS. Prove the row's statement (the work); the ties are given (YbulkatxeFmtTie.lean); close each card by the builder's one call (the guide's Derived/Test/ToyasCard.lean, 'card_holds'). Laid BY PROGRAM, IN A SANDBOX (cutbox-door.mjs). By AI agents, Wed Nov 11 2026. No macro, syntax, notation, axiom, sorry.
-/
import Derived.Test.YbulkatxeFmtRows
import GoSem.ClaimSeven
namespace Go.Proofs.YbulkatxeFmt
namespace Rows

/-- THE TOLD AND TIED CARD OF 'tcap.LawS2266AExact'. -/
def lawS2266AExactCard : Claim7 := { stood := { row := lawS2266AExactRow, standIns := [], harness := (true, "aa6dcc628511d51d02768f1f1b4eeeef274f0d9afcfdaf9367eae0ec24ba207a"), looks := true }, told := true, laidByText := true, laidKinds := [.handle], laidTests := true, laidLooks := .later, goes := false }
def LawS2266AExactToldSaid : Prop := Claim7.holds Ybaf.pinned (.plain (OpenSpec.ofChange lawS2266AExactSpec)) lawS2266AExactCard
/-- ITS FALSE NEIGHBOUR. Refute it at one input. -/
def LawS2266AExactToldWrongFalsely : Prop := Claim7.holds Ybaf.pinned (.plain (OpenSpec.ofChange lawS2266AExactWrong)) lawS2266AExactCard

/-- THE TOLD AND TIED CARD OF 'tcap.LawS2266ARoundTrip'. -/
def lawS2266ARoundTripCard : Claim7 := { stood := { row := lawS2266ARoundTripRow, standIns := [], harness := (true, "aa6dcc628511d51d02768f1f1b4eeeef274f0d9afcfdaf9367eae0ec24ba207a"), looks := true }, told := true, laidByText := true, laidKinds := [.handle], laidTests := true, laidLooks := .later, goes := false }
def LawS2266ARoundTripToldSaid : Prop := Claim7.holds Ybaf.pinned (.plain (OpenSpec.ofChange lawS2266ARoundTripSpec)) lawS2266ARoundTripCard
/-- ITS FALSE NEIGHBOUR. Refute it at one input. -/
def LawS2266ARoundTripToldWrongFalsely : Prop := Claim7.holds Ybaf.pinned (.plain (OpenSpec.ofChange lawS2266ARoundTripWrong)) lawS2266ARoundTripCard

/-- THE TOLD AND TIED CARD OF 'testsys.LawS2266BEchoSimple'. -/
def lawS2266BEchoSimpleCard : Claim7 := { stood := { row := lawS2266BEchoSimpleRow, standIns := [], harness := (true, "aa6dcc628511d51d02768f1f1b4eeeef274f0d9afcfdaf9367eae0ec24ba207a"), looks := true }, told := true, laidByText := true, laidKinds := [.data, .data, .data, .data, .data, .called, .called, .called, .called, .called, .called], laidTests := true, laidLooks := .later, goes := false }
def LawS2266BEchoSimpleToldSaid : Prop := Claim7.holds Ybaf.pinned (.plain (OpenSpec.ofChange lawS2266BEchoSimpleSpec)) lawS2266BEchoSimpleCard
/-- ITS FALSE NEIGHBOUR. Refute it at one input. -/
def LawS2266BEchoSimpleToldWrongFalsely : Prop := Claim7.holds Ybaf.pinned (.plain (OpenSpec.ofChange lawS2266BEchoSimpleWrong)) lawS2266BEchoSimpleCard

/-- THE TOLD AND TIED CARD OF 'testsys.LawS2266BInitTimeout'. -/
def lawS2266BInitTimeoutCard : Claim7 := { stood := { row := lawS2266BInitTimeoutRow, standIns := [], harness := (true, "aa6dcc628511d51d02768f1f1b4eeeef274f0d9afcfdaf9367eae0ec24ba207a"), looks := true }, told := true, laidByText := true, laidKinds := [.data, .data, .data, .data, .data, .called, .called, .called, .called, .called, .called], laidTests := true, laidLooks := .later, goes := false }
def LawS2266BInitTimeoutToldSaid : Prop := Claim7.holds Ybaf.pinned (.plain (OpenSpec.ofChange lawS2266BInitTimeoutSpec)) lawS2266BInitTimeoutCard
/-- ITS FALSE NEIGHBOUR. Refute it at one input. -/
def LawS2266BInitTimeoutToldWrongFalsely : Prop := Claim7.holds Ybaf.pinned (.plain (OpenSpec.ofChange lawS2266BInitTimeoutWrong)) lawS2266BInitTimeoutCard

/-- THE TOLD AND TIED CARD OF 'testsys.LawS2266BContinueWaits'. -/
def lawS2266BContinueWaitsCard : Claim7 := { stood := { row := lawS2266BContinueWaitsRow, standIns := [], harness := (true, "aa6dcc628511d51d02768f1f1b4eeeef274f0d9afcfdaf9367eae0ec24ba207a"), looks := true }, told := true, laidByText := true, laidKinds := [.data, .data, .data, .data, .data, .called, .called, .called, .called, .called, .called], laidTests := true, laidLooks := .later, goes := false }
def LawS2266BContinueWaitsToldSaid : Prop := Claim7.holds Ybaf.pinned (.plain (OpenSpec.ofChange lawS2266BContinueWaitsSpec)) lawS2266BContinueWaitsCard
/-- ITS FALSE NEIGHBOUR. Refute it at one input. -/
def LawS2266BContinueWaitsToldWrongFalsely : Prop := Claim7.holds Ybaf.pinned (.plain (OpenSpec.ofChange lawS2266BContinueWaitsWrong)) lawS2266BContinueWaitsCard
end Rows
end Go.Proofs.YbulkatxeFmt
