/-
  No cell of these rows narrows 'for every input' (looked for: loops, veiled, ifaces, maps, wideKeys, modest, calm, conditions, laid).
  DERIVED. THE GIVEN ROWS OF THIS SEAT. 3 by the template 'for every input the law returns true; each argument reads behind the call as it read before'; 0 by the template 'total and deterministic' (their statements: YbulkezsTotals.lean).
  GIVEN WITH THE SEED: the statements are not yours to turn. If you find one false, say at which input.
  Laid BY PROGRAM, IN A SANDBOX (cutbox-rows.mjs): the forced cells as the released guide's own fill.sh prints them over the translation aa726de254ed3136… (all of the seat's roots in one cut). By AI agents, Wed Nov 11 2026. No macro, syntax, notation, axiom, sorry.
-/
import Derived.Test.YbulkezsChecked
import GoSem.Claim
import GoSem.ClaimJoined
import GoSem.ClaimMapViews
import Derived.JoinedTies
import Derived.KernelRfl
namespace Go.Proofs.Ybulkezs
/- THE CELL 'sum', in the pinned program and in every row, IS THE sha256 OF THE DUMP (.gsa) THAT YbulkezsProg.lean LOADS. Nothing in Lean hashes anything: it is a label: what it is worth is what the hold of that sum in a sandbox is worth. -/
noncomputable def Yba.pinned : Pinned := { name := "ybulkezs", sum := "aa726de254ed313687c881dbfde711e7e28560552c3b3087dc61508948884612", checked := Yba.checked }
namespace Rows
def none {H : Type} : Left H := { results := [], args := [] }

/-- 'dyadic.LawS0291AReads': WHATEVER THE INPUT: true; the input reads as it did. -/
def lawS0291AReadsSpec : ChangeSpec := { name := "lawS0291AReads", fn := fun _ => fun
  | [d1, d2, d3, d4] => { results := [.lit (.bool true)], args := [d1, d2, d3, d4] }
  | _ => none }
def lawS0291AReadsRow : OpenClaim := { program := "ybulkezs", sum := "aa726de254ed313687c881dbfde711e7e28560552c3b3087dc61508948884612", func := "example.com/dyadic/dyadic.LawS0291AReads", spec := "lawS0291AReads", unfollowed := true, recurses := true, apart := false }
def LawS0291AReadsSaid : Prop := lawS0291AReadsRow.holds Yba.pinned (OpenSpec.ofChange lawS0291AReadsSpec)

/-- ITS FALSE NEIGHBOUR: 'it returns false'. Refute it at one input. -/
def lawS0291AReadsWrong : ChangeSpec := { name := "lawS0291AReads", fn := fun _ => fun
  | [d1, d2, d3, d4] => { results := [.lit (.bool false)], args := [d1, d2, d3, d4] }
  | _ => none }
def LawS0291AReadsWrongFalsely : Prop := lawS0291AReadsRow.holds Yba.pinned (OpenSpec.ofChange lawS0291AReadsWrong)

/-- 'dyadic.LawS0291ABytes': WHATEVER THE INPUT: true; the input reads as it did. -/
def lawS0291ABytesSpec : ChangeSpec := { name := "lawS0291ABytes", fn := fun _ => fun
  | [d1, d2] => { results := [.lit (.bool true)], args := [d1, d2] }
  | _ => none }
def lawS0291ABytesRow : OpenClaim := { program := "ybulkezs", sum := "aa726de254ed313687c881dbfde711e7e28560552c3b3087dc61508948884612", func := "example.com/dyadic/dyadic.LawS0291ABytes", spec := "lawS0291ABytes", unfollowed := true, recurses := true, apart := false }
def LawS0291ABytesSaid : Prop := lawS0291ABytesRow.holds Yba.pinned (OpenSpec.ofChange lawS0291ABytesSpec)

/-- ITS FALSE NEIGHBOUR: 'it returns false'. Refute it at one input. -/
def lawS0291ABytesWrong : ChangeSpec := { name := "lawS0291ABytes", fn := fun _ => fun
  | [d1, d2] => { results := [.lit (.bool false)], args := [d1, d2] }
  | _ => none }
def LawS0291ABytesWrongFalsely : Prop := lawS0291ABytesRow.holds Yba.pinned (OpenSpec.ofChange lawS0291ABytesWrong)

/-- 'dyadic.LawS0291CEncoding': WHATEVER THE INPUT: true; the input reads as it did. -/
def lawS0291CEncodingSpec : ChangeSpec := { name := "lawS0291CEncoding", fn := fun _ => fun
  | [d1, d2] => { results := [.lit (.bool true)], args := [d1, d2] }
  | _ => none }
def lawS0291CEncodingRow : OpenClaim := { program := "ybulkezs", sum := "aa726de254ed313687c881dbfde711e7e28560552c3b3087dc61508948884612", func := "example.com/dyadic/dyadic.LawS0291CEncoding", spec := "lawS0291CEncoding", recurses := true, named := ["encoding/binary.BigEndian"], apart := false }
def LawS0291CEncodingSaid : Prop := lawS0291CEncodingRow.holds Yba.pinned (OpenSpec.ofChange lawS0291CEncodingSpec)

/-- ITS FALSE NEIGHBOUR: 'it returns false'. Refute it at one input. -/
def lawS0291CEncodingWrong : ChangeSpec := { name := "lawS0291CEncoding", fn := fun _ => fun
  | [d1, d2] => { results := [.lit (.bool false)], args := [d1, d2] }
  | _ => none }
def LawS0291CEncodingWrongFalsely : Prop := lawS0291CEncodingRow.holds Yba.pinned (OpenSpec.ofChange lawS0291CEncodingWrong)

end Rows
end Go.Proofs.Ybulkezs
