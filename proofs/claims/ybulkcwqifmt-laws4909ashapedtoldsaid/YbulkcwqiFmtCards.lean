/-
  DERIVED. GIVEN WITH THE SEED: THE CARDS: each row of YbulkcwqiFmtRows.lean that lists a variable, with what it lists TIED to the program's text (the seventh form; the later family's looks); each row that meets fmt, with fmt's text TOLD by the authors' own Lean function (tested against real Go, not proved from fmt's source: count such statements apart). THE CARD IS WHAT COUNTS. Prove the row's statement (the work); the ties are given (YbulkcwqiFmtTie.lean); close each card by the builder's one call (the guide's Derived/Test/ToyasCard.lean, 'card_holds'). Laid BY PROGRAM, IN A SANDBOX (cutbox-door.mjs). By AI agents, Wed Nov 11 2026. No macro, syntax, notation, axiom, sorry.
-/
import Derived.Test.YbulkcwqiFmtRows
import GoSem.ClaimSeven
namespace Go.Proofs.YbulkcwqiFmt
namespace Rows

/-- THE TOLD CARD OF 'crosspack.LawS4909ARaw'. -/
def lawS4909ARawCard : Claim7 := { stood := { row := lawS4909ARawRow, standIns := [], harness := (true, "8300ad143f2dcf594ca7a64f6ab8589e4c910194165601f1710612e181136051"), looks := false }, told := true, goes := false }
def LawS4909ARawToldSaid : Prop := Claim7.holds Ybaf.pinned (.plain (OpenSpec.ofChange lawS4909ARawSpec)) lawS4909ARawCard
/-- ITS FALSE NEIGHBOUR. Refute it at one input. -/
def LawS4909ARawToldWrongFalsely : Prop := Claim7.holds Ybaf.pinned (.plain (OpenSpec.ofChange lawS4909ARawWrong)) lawS4909ARawCard

/-- THE TOLD CARD OF 'crosspack.LawS4909AShaped'. -/
def lawS4909AShapedCard : Claim7 := { stood := { row := lawS4909AShapedRow, standIns := [], harness := (true, "8300ad143f2dcf594ca7a64f6ab8589e4c910194165601f1710612e181136051"), looks := false }, told := true, goes := false }
def LawS4909AShapedToldSaid : Prop := Claim7.holds Ybaf.pinned (.plain (OpenSpec.ofChange lawS4909AShapedSpec)) lawS4909AShapedCard
/-- ITS FALSE NEIGHBOUR. Refute it at one input. -/
def LawS4909AShapedToldWrongFalsely : Prop := Claim7.holds Ybaf.pinned (.plain (OpenSpec.ofChange lawS4909AShapedWrong)) lawS4909AShapedCard

/-- THE TOLD CARD OF 'crosspack.LawS4909CMerge'. -/
def lawS4909CMergeCard : Claim7 := { stood := { row := lawS4909CMergeRow, standIns := [], harness := (true, "8300ad143f2dcf594ca7a64f6ab8589e4c910194165601f1710612e181136051"), looks := false }, told := true, goes := false }
def LawS4909CMergeToldSaid : Prop := Claim7.holds Ybaf.pinned (.plain (OpenSpec.ofChange lawS4909CMergeSpec)) lawS4909CMergeCard
/-- ITS FALSE NEIGHBOUR. Refute it at one input. -/
def LawS4909CMergeToldWrongFalsely : Prop := Claim7.holds Ybaf.pinned (.plain (OpenSpec.ofChange lawS4909CMergeWrong)) lawS4909CMergeCard
end Rows
end Go.Proofs.YbulkcwqiFmt
