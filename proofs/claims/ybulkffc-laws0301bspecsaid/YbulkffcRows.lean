/-
  No cell of these rows narrows 'for every input' (looked for: loops, veiled, ifaces, maps, wideKeys, modest, calm, conditions, laid).
  DERIVED. THE GIVEN ROWS OF THIS SEAT. 3 by the template 'for every input the law returns true; each argument reads behind the call as it read before'; 0 by the template 'total and deterministic' (their statements: YbulkffcTotals.lean).
  GIVEN WITH THE SEED: the statements are not yours to turn. If you find one false, say at which input.
  Laid BY PROGRAM, IN A SANDBOX (cutbox-rows.mjs): the forced cells as the released guide's own fill.sh prints them over the translation afd12e9010872759… (all of the seat's roots in one cut). By AI agents, Wed Nov 11 2026. No macro, syntax, notation, axiom, sorry.
-/
import Derived.Test.YbulkffcChecked
import GoSem.Claim
import GoSem.ClaimJoined
import GoSem.ClaimMapViews
import Derived.JoinedTies
import Derived.KernelRfl
namespace Go.Proofs.Ybulkffc
/- THE CELL 'sum', in the pinned program and in every row, IS THE sha256 OF THE DUMP (.gsa) THAT YbulkffcProg.lean LOADS. Nothing in Lean hashes anything: it is a label: what it is worth is what the hold of that sum in a sandbox is worth. -/
noncomputable def Yba.pinned : Pinned := { name := "ybulkffc", sum := "afd12e9010872759767e1bb344f705d9876f31e8699b341bc922ce638704d248", checked := Yba.checked }
namespace Rows
def none {H : Type} : Left H := { results := [], args := [] }

/-- 'gradle.LawS0301BSpec': WHATEVER THE INPUT: true; the input reads as it did. -/
def lawS0301BSpecSpec : ChangeSpec := { name := "lawS0301BSpec", fn := fun _ => fun
  | [d1, d2, d3] => { results := [.lit (.bool true)], args := [d1, d2, d3] }
  | _ => none }
def lawS0301BSpecRow : OpenClaim := { program := "ybulkffc", sum := "afd12e9010872759767e1bb344f705d9876f31e8699b341bc922ce638704d248", func := "example.com/orrery/orrery/internal/gradle.LawS0301BSpec", spec := "lawS0301BSpec", apart := false }
def LawS0301BSpecSaid : Prop := lawS0301BSpecRow.holds Yba.pinned (OpenSpec.ofChange lawS0301BSpecSpec)

/-- ITS FALSE NEIGHBOUR: 'it returns false'. Refute it at one input. -/
def lawS0301BSpecWrong : ChangeSpec := { name := "lawS0301BSpec", fn := fun _ => fun
  | [d1, d2, d3] => { results := [.lit (.bool false)], args := [d1, d2, d3] }
  | _ => none }
def LawS0301BSpecWrongFalsely : Prop := lawS0301BSpecRow.holds Yba.pinned (OpenSpec.ofChange lawS0301BSpecWrong)

/-- 'gradle.LawS0301BBounds': WHATEVER THE INPUT: true; the input reads as it did. -/
def lawS0301BBoundsSpec : ChangeSpec := { name := "lawS0301BBounds", fn := fun _ => fun
  | [d1, d2, d3] => { results := [.lit (.bool true)], args := [d1, d2, d3] }
  | _ => none }
def lawS0301BBoundsRow : OpenClaim := { program := "ybulkffc", sum := "afd12e9010872759767e1bb344f705d9876f31e8699b341bc922ce638704d248", func := "example.com/orrery/orrery/internal/gradle.LawS0301BBounds", spec := "lawS0301BBounds", apart := false }
def LawS0301BBoundsSaid : Prop := lawS0301BBoundsRow.holds Yba.pinned (OpenSpec.ofChange lawS0301BBoundsSpec)

/-- ITS FALSE NEIGHBOUR: 'it returns false'. Refute it at one input. -/
def lawS0301BBoundsWrong : ChangeSpec := { name := "lawS0301BBounds", fn := fun _ => fun
  | [d1, d2, d3] => { results := [.lit (.bool false)], args := [d1, d2, d3] }
  | _ => none }
def LawS0301BBoundsWrongFalsely : Prop := lawS0301BBoundsRow.holds Yba.pinned (OpenSpec.ofChange lawS0301BBoundsWrong)

/-- 'gradle.LawS0301CModel': WHATEVER THE INPUT: true; the input reads as it did. -/
def lawS0301CModelSpec : ChangeSpec := { name := "lawS0301CModel", fn := fun _ => fun
  | [d1, d2, d3] => { results := [.lit (.bool true)], args := [d1, d2, d3] }
  | _ => none }
def lawS0301CModelRow : OpenClaim := { program := "ybulkffc", sum := "afd12e9010872759767e1bb344f705d9876f31e8699b341bc922ce638704d248", func := "example.com/orrery/orrery/internal/gradle.LawS0301CModel", spec := "lawS0301CModel", inPlace := ["internal/bytealg.IndexByteString", "internal/bytealg.IndexString"], unfollowed := true, recurses := true, named := ["internal/bytealg.MaxLen"], apart := false }
def LawS0301CModelSaid : Prop := lawS0301CModelRow.holds Yba.pinned (OpenSpec.ofChange lawS0301CModelSpec)

/-- ITS FALSE NEIGHBOUR: 'it returns false'. Refute it at one input. -/
def lawS0301CModelWrong : ChangeSpec := { name := "lawS0301CModel", fn := fun _ => fun
  | [d1, d2, d3] => { results := [.lit (.bool false)], args := [d1, d2, d3] }
  | _ => none }
def LawS0301CModelWrongFalsely : Prop := lawS0301CModelRow.holds Yba.pinned (OpenSpec.ofChange lawS0301CModelWrong)

end Rows
end Go.Proofs.Ybulkffc
