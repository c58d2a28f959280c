/-
  No cell of these rows narrows 'for every input' (looked for: loops, veiled, ifaces, maps, wideKeys, modest, calm, conditions, laid).
  DERIVED. THE GIVEN ROWS OF THIS SEAT. 3 by the template 'for every input the law returns true; each argument reads behind the call as it read before'; 0 by the template 'total and deterministic' (their statements: YbulkcwpuTotals.lean).
  GIVEN WITH THE SEED: the statements are not yours to turn. If you find one false, say at which input.
  Laid BY PROGRAM, IN A SANDBOX (cutbox-rows.mjs): the forced cells as the released guide's own fill.sh prints them over the translation 50d967ec856f8023… (all of the seat's roots in one cut). By AI agents, Wed Nov 11 2026. No macro, syntax, notation, axiom, sorry.
-/
import Derived.Test.YbulkcwpuChecked
import GoSem.Claim
import GoSem.ClaimJoined
import GoSem.ClaimMapViews
import Derived.JoinedTies
import Derived.KernelRfl
namespace Go.Proofs.Ybulkcwpu
/- THE CELL 'sum', in the pinned program and in every row, IS THE sha256 OF THE DUMP (.gsa) THAT YbulkcwpuProg.lean LOADS. Nothing in Lean hashes anything: it is a label: what it is worth is what the hold of that sum in a sandbox is worth. -/
noncomputable def Yba.pinned : Pinned := { name := "ybulkcwpu", sum := "50d967ec856f8023c8fe1eba4edc55ffd5b4b354ad8acdeee23188c3975e9e45", checked := Yba.checked }
namespace Rows
def none {H : Type} : Left H := { results := [], args := [] }

/-- 'plane.LawS4908BShort': WHATEVER THE INPUT: true; the input reads as it did. -/
def lawS4908BShortSpec : ChangeSpec := { name := "lawS4908BShort", fn := fun _ => fun
  | [d1, d2, d3] => { results := [.lit (.bool true)], args := [d1, d2, d3] }
  | _ => none }
def lawS4908BShortRow : OpenClaim := { program := "ybulkcwpu", sum := "50d967ec856f8023c8fe1eba4edc55ffd5b4b354ad8acdeee23188c3975e9e45", func := "example.com/driftquorum/driftquorum/plane.LawS4908BShort", spec := "lawS4908BShort", inPlace := ["math.Float64bits", "math.Float64frombits"], apart := false }
def LawS4908BShortSaid : Prop := lawS4908BShortRow.holds Yba.pinned (OpenSpec.ofChange lawS4908BShortSpec)

/-- ITS FALSE NEIGHBOUR: 'it returns false'. Refute it at one input. -/
def lawS4908BShortWrong : ChangeSpec := { name := "lawS4908BShort", fn := fun _ => fun
  | [d1, d2, d3] => { results := [.lit (.bool false)], args := [d1, d2, d3] }
  | _ => none }
def LawS4908BShortWrongFalsely : Prop := lawS4908BShortRow.holds Yba.pinned (OpenSpec.ofChange lawS4908BShortWrong)

/-- 'plane.LawS4908CModel': WHATEVER THE INPUT: true; the input reads as it did. -/
def lawS4908CModelSpec : ChangeSpec := { name := "lawS4908CModel", fn := fun _ => fun
  | [d1, d2] => { results := [.lit (.bool true)], args := [d1, d2] }
  | _ => none }
def lawS4908CModelRow : OpenClaim := { program := "ybulkcwpu", sum := "50d967ec856f8023c8fe1eba4edc55ffd5b4b354ad8acdeee23188c3975e9e45", func := "example.com/driftquorum/driftquorum/plane.LawS4908CModel", spec := "lawS4908CModel", recurses := true, apart := false }
def LawS4908CModelSaid : Prop := lawS4908CModelRow.holds Yba.pinned (OpenSpec.ofChange lawS4908CModelSpec)

/-- ITS FALSE NEIGHBOUR: 'it returns false'. Refute it at one input. -/
def lawS4908CModelWrong : ChangeSpec := { name := "lawS4908CModel", fn := fun _ => fun
  | [d1, d2] => { results := [.lit (.bool false)], args := [d1, d2] }
  | _ => none }
def LawS4908CModelWrongFalsely : Prop := lawS4908CModelRow.holds Yba.pinned (OpenSpec.ofChange lawS4908CModelWrong)

/-- 'plane.LawS4908CMerge': WHATEVER THE INPUT: true; the input reads as it did. -/
def lawS4908CMergeSpec : ChangeSpec := { name := "lawS4908CMerge", fn := fun _ => fun
  | [d] => { results := [.lit (.bool true)], args := [d] }
  | _ => none }
def lawS4908CMergeRow : OpenClaim := { program := "ybulkcwpu", sum := "50d967ec856f8023c8fe1eba4edc55ffd5b4b354ad8acdeee23188c3975e9e45", func := "example.com/driftquorum/driftquorum/plane.LawS4908CMerge", spec := "lawS4908CMerge", recurses := true, apart := false }
def LawS4908CMergeSaid : Prop := lawS4908CMergeRow.holds Yba.pinned (OpenSpec.ofChange lawS4908CMergeSpec)

/-- ITS FALSE NEIGHBOUR: 'it returns false'. Refute it at one input. -/
def lawS4908CMergeWrong : ChangeSpec := { name := "lawS4908CMerge", fn := fun _ => fun
  | [d] => { results := [.lit (.bool false)], args := [d] }
  | _ => none }
def LawS4908CMergeWrongFalsely : Prop := lawS4908CMergeRow.holds Yba.pinned (OpenSpec.ofChange lawS4908CMergeWrong)

end Rows
end Go.Proofs.Ybulkcwpu
