/-
  DERIVED. GIVEN WITH THE SEED: THE CARDS: each row of YbulkcwpuFmtRows.lean that lists a variable, with what it lists TIED to the program's text (the seventh form; the later family's looks); each row that meets fmt, with fmt's text TOLD by the authors' own Lean function (tested against real Go, not proved from fmt's source: count such statements apart). THE CARD IS WHAT COUNTS. Prove the row's statement (the work); the ties are given (YbulkcwpuFmtTie.lean); close each card by the builder's one call (the guide's Derived/Test/ToyasCard.lean, 'card_holds'). Laid BY PROGRAM, IN A SANDBOX (cutbox-door.mjs). By AI agents, Wed Nov 11 2026. No macro, syntax, notation, axiom, sorry.
-/
import Derived.Test.YbulkcwpuFmtRows
import GoSem.ClaimSeven
namespace Go.Proofs.YbulkcwpuFmt
namespace Rows

/-- THE TOLD AND TIED CARD OF 'stabilize.LawS4908ATwoNodes'. -/
def lawS4908ATwoNodesCard : Claim7 := { stood := { row := lawS4908ATwoNodesRow, standIns := [], harness := (true, "78e58946672d9f84a442c52d72607cc699fc3484bbc3fdf9d2fb76581410e409"), looks := false }, told := true, laidByText := true, laidKinds := [.data], laidTests := true, laidLooks := .later, goes := false }
def LawS4908ATwoNodesToldSaid : Prop := Claim7.holds Ybaf.pinned (.plain (OpenSpec.ofChange lawS4908ATwoNodesSpec)) lawS4908ATwoNodesCard
/-- ITS FALSE NEIGHBOUR. Refute it at one input. -/
def LawS4908ATwoNodesToldWrongFalsely : Prop := Claim7.holds Ybaf.pinned (.plain (OpenSpec.ofChange lawS4908ATwoNodesWrong)) lawS4908ATwoNodesCard

/-- THE TOLD AND TIED CARD OF 'stabilize.LawS4908AIgnored'. -/
def lawS4908AIgnoredCard : Claim7 := { stood := { row := lawS4908AIgnoredRow, standIns := [], harness := (true, "78e58946672d9f84a442c52d72607cc699fc3484bbc3fdf9d2fb76581410e409"), looks := false }, told := true, laidByText := true, laidKinds := [.data], laidTests := true, laidLooks := .later, goes := false }
def LawS4908AIgnoredToldSaid : Prop := Claim7.holds Ybaf.pinned (.plain (OpenSpec.ofChange lawS4908AIgnoredSpec)) lawS4908AIgnoredCard
/-- ITS FALSE NEIGHBOUR. Refute it at one input. -/
def LawS4908AIgnoredToldWrongFalsely : Prop := Claim7.holds Ybaf.pinned (.plain (OpenSpec.ofChange lawS4908AIgnoredWrong)) lawS4908AIgnoredCard
end Rows
end Go.Proofs.YbulkcwpuFmt
