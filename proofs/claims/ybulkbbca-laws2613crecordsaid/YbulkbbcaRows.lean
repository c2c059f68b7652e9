/-
  No cell of these rows narrows 'for every input' (looked for: loops, veiled, ifaces, maps, wideKeys, modest, calm, conditions, laid).
  DERIVED. THE GIVEN ROWS OF THIS SEAT. 3 by the template 'for every input the law returns true; each argument reads behind the call as it read before'; 0 by the template 'total and deterministic' (their statements: YbulkbbcaTotals.lean).
  GIVEN WITH THE SEED: the statements are not yours to turn. If you find one false, say at which input.
  Laid BY PROGRAM, IN A SANDBOX (cutbox-rows.mjs): the forced cells as the released guide's own fill.sh prints them over the translation d75e499d268f4aaa… (all of the seat's roots in one cut). By AI agents, Wed Nov 11 2026. No macro, syntax, notation, axiom, sorry.
-/
import Derived.Test.YbulkbbcaChecked
import GoSem.Claim
import GoSem.ClaimJoined
import GoSem.ClaimMapViews
import Derived.JoinedTies
import Derived.KernelRfl
namespace Go.Proofs.Ybulkbbca
/- THE CELL 'sum', in the pinned program and in every row, IS THE sha256 OF THE DUMP (.gsa) THAT YbulkbbcaProg.lean LOADS. Nothing in Lean hashes anything: it is a label: what it is worth is what the hold of that sum in a sandbox is worth. -/
noncomputable def Yba.pinned : Pinned := { name := "ybulkbbca", sum := "d75e499d268f4aaa02d6d8d1ba3b3e38cef51a3c4b45c37e79ab572fe50b5799", checked := Yba.checked }
namespace Rows
def none {H : Type} : Left H := { results := [], args := [] }

/-- 'identity.LawS2613BModel': WHATEVER THE INPUT: true; the input reads as it did. -/
def lawS2613BModelSpec : ChangeSpec := { name := "lawS2613BModel", fn := fun _ => fun
  | [d] => { results := [.lit (.bool true)], args := [d] }
  | _ => none }
def lawS2613BModelRow : OpenClaim := { program := "ybulkbbca", sum := "d75e499d268f4aaa02d6d8d1ba3b3e38cef51a3c4b45c37e79ab572fe50b5799", func := "example.com/antumbra/antumbra/pkg/identity.LawS2613BModel", spec := "lawS2613BModel", named := ["encoding/binary.BigEndian"], plainKeys := false, apart := false }
def LawS2613BModelSaid : Prop := lawS2613BModelRow.holds Yba.pinned (OpenSpec.ofChange lawS2613BModelSpec)

/-- ITS FALSE NEIGHBOUR: 'it returns false'. Refute it at one input. -/
def lawS2613BModelWrong : ChangeSpec := { name := "lawS2613BModel", fn := fun _ => fun
  | [d] => { results := [.lit (.bool false)], args := [d] }
  | _ => none }
def LawS2613BModelWrongFalsely : Prop := lawS2613BModelRow.holds Yba.pinned (OpenSpec.ofChange lawS2613BModelWrong)

/-- 'identity.LawS2613BPlaced': WHATEVER THE INPUT: true; the input reads as it did. -/
def lawS2613BPlacedSpec : ChangeSpec := { name := "lawS2613BPlaced", fn := fun _ => fun
  | [d1, d2] => { results := [.lit (.bool true)], args := [d1, d2] }
  | _ => none }
def lawS2613BPlacedRow : OpenClaim := { program := "ybulkbbca", sum := "d75e499d268f4aaa02d6d8d1ba3b3e38cef51a3c4b45c37e79ab572fe50b5799", func := "example.com/antumbra/antumbra/pkg/identity.LawS2613BPlaced", spec := "lawS2613BPlaced", named := ["encoding/binary.BigEndian"], plainKeys := false, apart := false }
def LawS2613BPlacedSaid : Prop := lawS2613BPlacedRow.holds Yba.pinned (OpenSpec.ofChange lawS2613BPlacedSpec)

/-- ITS FALSE NEIGHBOUR: 'it returns false'. Refute it at one input. -/
def lawS2613BPlacedWrong : ChangeSpec := { name := "lawS2613BPlaced", fn := fun _ => fun
  | [d1, d2] => { results := [.lit (.bool false)], args := [d1, d2] }
  | _ => none }
def LawS2613BPlacedWrongFalsely : Prop := lawS2613BPlacedRow.holds Yba.pinned (OpenSpec.ofChange lawS2613BPlacedWrong)

/-- 'node.LawS2613CRecord': WHATEVER THE INPUT: true; the input reads as it did. -/
def lawS2613CRecordSpec : ChangeSpec := { name := "lawS2613CRecord", fn := fun _ => fun
  | [d1, d2, d3] => { results := [.lit (.bool true)], args := [d1, d2, d3] }
  | _ => none }
def lawS2613CRecordRow : OpenClaim := { program := "ybulkbbca", sum := "d75e499d268f4aaa02d6d8d1ba3b3e38cef51a3c4b45c37e79ab572fe50b5799", func := "example.com/antumbra/antumbra/pkg/node.LawS2613CRecord", spec := "lawS2613CRecord", unfollowed := true, recurses := true, named := ["encoding/binary.BigEndian"], plainKeys := false, apart := false }
def LawS2613CRecordSaid : Prop := lawS2613CRecordRow.holds Yba.pinned (OpenSpec.ofChange lawS2613CRecordSpec)

/-- ITS FALSE NEIGHBOUR: 'it returns false'. Refute it at one input. -/
def lawS2613CRecordWrong : ChangeSpec := { name := "lawS2613CRecord", fn := fun _ => fun
  | [d1, d2, d3] => { results := [.lit (.bool false)], args := [d1, d2, d3] }
  | _ => none }
def LawS2613CRecordWrongFalsely : Prop := lawS2613CRecordRow.holds Yba.pinned (OpenSpec.ofChange lawS2613CRecordWrong)

end Rows
end Go.Proofs.Ybulkbbca
