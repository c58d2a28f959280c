/-
  No cell of these rows narrows 'for every input' (looked for: loops, veiled, ifaces, maps, wideKeys, modest, calm, conditions, laid).
  DERIVED. THE GIVEN ROWS OF THIS SEAT. 3 by the template 'for every input the law returns true; each argument reads behind the call as it read before'; 0 by the template 'total and deterministic' (their statements: YbulkcwqiFmtTotals.lean).
  GIVEN WITH THE SEED: the statements are not yours to turn. If you find one false, say at which input.
  Laid BY PROGRAM, IN A SANDBOX (cutbox-rows.mjs): the forced cells as the released guide's own fill.sh prints them over the translation cafded3d4e3dea77… (all of the seat's roots in one cut). By AI agents, Wed Nov 11 2026. No macro, syntax, notation, axiom, sorry.
-/
import Derived.Test.YbulkcwqiFmtChecked
import GoSem.Claim
import GoSem.ClaimJoined
import GoSem.ClaimMapViews
import Derived.JoinedTies
import Derived.KernelRfl
namespace Go.Proofs.YbulkcwqiFmt
/- THE CELL 'sum', in the pinned program and in every row, IS THE sha256 OF THE DUMP (.gsa) THAT YbulkcwqiFmtProg.lean LOADS. Nothing in Lean hashes anything: it is a label: what it is worth is what the hold of that sum in a sandbox is worth. -/
noncomputable def Ybaf.pinned : Pinned := { name := "ybulkcwqifmt", sum := "cafded3d4e3dea7782610cabeb39a0b0090c51e62451a8f9ebeb2f29e9c93193", checked := Ybaf.checked }
namespace Rows
def none {H : Type} : Left H := { results := [], args := [] }

/-- 'crosspack.LawS4909ARaw': WHATEVER THE INPUT: true; the input reads as it did. -/
def lawS4909ARawSpec : ChangeSpec := { name := "lawS4909ARaw", fn := fun _ => fun
  | [d] => { results := [.lit (.bool true)], args := [d] }
  | _ => none }
def lawS4909ARawRow : OpenClaim := { program := "ybulkcwqifmt", sum := "cafded3d4e3dea7782610cabeb39a0b0090c51e62451a8f9ebeb2f29e9c93193", func := "example.com/crosspack/crosspack.LawS4909ARaw", spec := "lawS4909ARaw", stops := ["fmt.errorf"], inPlace := ["fmt.errorf"], unfollowed := true, recurses := true, apart := false }
/-- NO THEOREM (fmt's text is open here; it may be false): for the released tool's asking of the row's closed facts alone. THE STATEMENT IS 'LawS4909ARawToldSaid' (YbulkcwqiFmtCards.lean). -/
def LawS4909ARawFormAsk : Prop := lawS4909ARawRow.holds Ybaf.pinned (OpenSpec.ofChange lawS4909ARawSpec)

/-- ITS FALSE NEIGHBOUR: 'it returns false'. Refute it at one input. -/
def lawS4909ARawWrong : ChangeSpec := { name := "lawS4909ARaw", fn := fun _ => fun
  | [d] => { results := [.lit (.bool false)], args := [d] }
  | _ => none }
def LawS4909ARawWrongFormAsk : Prop := lawS4909ARawRow.holds Ybaf.pinned (OpenSpec.ofChange lawS4909ARawWrong)

/-- 'crosspack.LawS4909AShaped': WHATEVER THE INPUT: true; the input reads as it did. -/
def lawS4909AShapedSpec : ChangeSpec := { name := "lawS4909AShaped", fn := fun _ => fun
  | [d1, d2] => { results := [.lit (.bool true)], args := [d1, d2] }
  | _ => none }
def lawS4909AShapedRow : OpenClaim := { program := "ybulkcwqifmt", sum := "cafded3d4e3dea7782610cabeb39a0b0090c51e62451a8f9ebeb2f29e9c93193", func := "example.com/crosspack/crosspack.LawS4909AShaped", spec := "lawS4909AShaped", stops := ["fmt.errorf"], inPlace := ["fmt.errorf"], unfollowed := true, recurses := true, apart := false }
/-- NO THEOREM (fmt's text is open here; it may be false): for the released tool's asking of the row's closed facts alone. THE STATEMENT IS 'LawS4909AShapedToldSaid' (YbulkcwqiFmtCards.lean). -/
def LawS4909AShapedFormAsk : Prop := lawS4909AShapedRow.holds Ybaf.pinned (OpenSpec.ofChange lawS4909AShapedSpec)

/-- ITS FALSE NEIGHBOUR: 'it returns false'. Refute it at one input. -/
def lawS4909AShapedWrong : ChangeSpec := { name := "lawS4909AShaped", fn := fun _ => fun
  | [d1, d2] => { results := [.lit (.bool false)], args := [d1, d2] }
  | _ => none }
def LawS4909AShapedWrongFormAsk : Prop := lawS4909AShapedRow.holds Ybaf.pinned (OpenSpec.ofChange lawS4909AShapedWrong)

/-- 'crosspack.LawS4909CMerge': WHATEVER THE INPUT: true; the input reads as it did. -/
def lawS4909CMergeSpec : ChangeSpec := { name := "lawS4909CMerge", fn := fun _ => fun
  | [d1, d2, d3, d4] => { results := [.lit (.bool true)], args := [d1, d2, d3, d4] }
  | _ => none }
def lawS4909CMergeRow : OpenClaim := { program := "ybulkcwqifmt", sum := "cafded3d4e3dea7782610cabeb39a0b0090c51e62451a8f9ebeb2f29e9c93193", func := "example.com/crosspack/crosspack.LawS4909CMerge", spec := "lawS4909CMerge", stops := ["fmt.errorf"], inPlace := ["fmt.errorf"], unfollowed := true, recurses := true, apart := false }
/-- NO THEOREM (fmt's text is open here; it may be false): for the released tool's asking of the row's closed facts alone. THE STATEMENT IS 'LawS4909CMergeToldSaid' (YbulkcwqiFmtCards.lean). -/
def LawS4909CMergeFormAsk : Prop := lawS4909CMergeRow.holds Ybaf.pinned (OpenSpec.ofChange lawS4909CMergeSpec)

/-- ITS FALSE NEIGHBOUR: 'it returns false'. Refute it at one input. -/
def lawS4909CMergeWrong : ChangeSpec := { name := "lawS4909CMerge", fn := fun _ => fun
  | [d1, d2, d3, d4] => { results := [.lit (.bool false)], args := [d1, d2, d3, d4] }
  | _ => none }
def LawS4909CMergeWrongFormAsk : Prop := lawS4909CMergeRow.holds Ybaf.pinned (OpenSpec.ofChange lawS4909CMergeWrong)

end Rows
end Go.Proofs.YbulkcwqiFmt
