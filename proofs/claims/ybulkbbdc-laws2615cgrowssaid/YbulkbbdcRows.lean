/-
  No cell of these rows narrows 'for every input' (looked for: loops, veiled, ifaces, maps, wideKeys, modest, calm, conditions, laid).
  DERIVED. THE GIVEN ROWS OF THIS SEAT. 4 by the template 'for every input the law returns true; each argument reads behind the call as it read before'; 0 by the template 'total and deterministic' (their statements: YbulkbbdcTotals.lean).
  GIVEN WITH THE SEED: the statements are not yours to turn. If you find one false, say at which input.
  Laid BY PROGRAM, IN A SANDBOX (cutbox-rows.mjs): the forced cells as the released guide's own fill.sh prints them over the translation 950ff44cd99bb7e8… (all of the seat's roots in one cut). By AI agents, Wed Nov 11 2026. No macro, syntax, notation, axiom, sorry.
-/
import Derived.Test.YbulkbbdcChecked
import GoSem.Claim
import GoSem.ClaimJoined
import GoSem.ClaimMapViews
import Derived.JoinedTies
import Derived.KernelRfl
namespace Go.Proofs.Ybulkbbdc
/- THE CELL 'sum', in the pinned program and in every row, IS THE sha256 OF THE DUMP (.gsa) THAT YbulkbbdcProg.lean LOADS. Nothing in Lean hashes anything: it is a label: what it is worth is what the hold of that sum in a sandbox is worth. -/
noncomputable def Yba.pinned : Pinned := { name := "ybulkbbdc", sum := "950ff44cd99bb7e8a4a9dba949cf7f72380db48ce9a7d1ddd7f6d2e3a01b7a1e", checked := Yba.checked }
namespace Rows
def none {H : Type} : Left H := { results := [], args := [] }

/-- 'jsonrule.LawS2615AExact': WHATEVER THE INPUT: true; the input reads as it did. -/
def lawS2615AExactSpec : ChangeSpec := { name := "lawS2615AExact", fn := fun _ => fun
  | [d] => { results := [.lit (.bool true)], args := [d] }
  | _ => none }
def lawS2615AExactRow : OpenClaim := { program := "ybulkbbdc", sum := "950ff44cd99bb7e8a4a9dba949cf7f72380db48ce9a7d1ddd7f6d2e3a01b7a1e", func := "example.com/foxhound/foxhound/internal/jsonrule.LawS2615AExact", spec := "lawS2615AExact", apart := false }
def LawS2615AExactSaid : Prop := lawS2615AExactRow.holds Yba.pinned (OpenSpec.ofChange lawS2615AExactSpec)

/-- ITS FALSE NEIGHBOUR: 'it returns false'. Refute it at one input. -/
def lawS2615AExactWrong : ChangeSpec := { name := "lawS2615AExact", fn := fun _ => fun
  | [d] => { results := [.lit (.bool false)], args := [d] }
  | _ => none }
def LawS2615AExactWrongFalsely : Prop := lawS2615AExactRow.holds Yba.pinned (OpenSpec.ofChange lawS2615AExactWrong)

/-- 'jsonrule.LawS2615ABuilt': WHATEVER THE INPUT: true; the input reads as it did. -/
def lawS2615ABuiltSpec : ChangeSpec := { name := "lawS2615ABuilt", fn := fun _ => fun
  | [d1, d2, d3, d4] => { results := [.lit (.bool true)], args := [d1, d2, d3, d4] }
  | _ => none }
def lawS2615ABuiltRow : OpenClaim := { program := "ybulkbbdc", sum := "950ff44cd99bb7e8a4a9dba949cf7f72380db48ce9a7d1ddd7f6d2e3a01b7a1e", func := "example.com/foxhound/foxhound/internal/jsonrule.LawS2615ABuilt", spec := "lawS2615ABuilt", apart := false }
def LawS2615ABuiltSaid : Prop := lawS2615ABuiltRow.holds Yba.pinned (OpenSpec.ofChange lawS2615ABuiltSpec)

/-- ITS FALSE NEIGHBOUR: 'it returns false'. Refute it at one input. -/
def lawS2615ABuiltWrong : ChangeSpec := { name := "lawS2615ABuilt", fn := fun _ => fun
  | [d1, d2, d3, d4] => { results := [.lit (.bool false)], args := [d1, d2, d3, d4] }
  | _ => none }
def LawS2615ABuiltWrongFalsely : Prop := lawS2615ABuiltRow.holds Yba.pinned (OpenSpec.ofChange lawS2615ABuiltWrong)

/-- 'bipartite.LawS2615CGrows': WHATEVER THE INPUT: true; the input reads as it did. -/
def lawS2615CGrowsSpec : ChangeSpec := { name := "lawS2615CGrows", fn := fun _ => fun
  | [d] => { results := [.lit (.bool true)], args := [d] }
  | _ => none }
def lawS2615CGrowsRow : OpenClaim := { program := "ybulkbbdc", sum := "950ff44cd99bb7e8a4a9dba949cf7f72380db48ce9a7d1ddd7f6d2e3a01b7a1e", func := "example.com/foxhound/foxhound/internal/bipartite.LawS2615CGrows", spec := "lawS2615CGrows", apart := false }
def LawS2615CGrowsSaid : Prop := lawS2615CGrowsRow.holds Yba.pinned (OpenSpec.ofChange lawS2615CGrowsSpec)

/-- ITS FALSE NEIGHBOUR: 'it returns false'. Refute it at one input. -/
def lawS2615CGrowsWrong : ChangeSpec := { name := "lawS2615CGrows", fn := fun _ => fun
  | [d] => { results := [.lit (.bool false)], args := [d] }
  | _ => none }
def LawS2615CGrowsWrongFalsely : Prop := lawS2615CGrowsRow.holds Yba.pinned (OpenSpec.ofChange lawS2615CGrowsWrong)

/-- 'bipartite.LawS2615CLayers': WHATEVER THE INPUT: true; the input reads as it did. -/
def lawS2615CLayersSpec : ChangeSpec := { name := "lawS2615CLayers", fn := fun _ => fun
  | [d] => { results := [.lit (.bool true)], args := [d] }
  | _ => none }
def lawS2615CLayersRow : OpenClaim := { program := "ybulkbbdc", sum := "950ff44cd99bb7e8a4a9dba949cf7f72380db48ce9a7d1ddd7f6d2e3a01b7a1e", func := "example.com/foxhound/foxhound/internal/bipartite.LawS2615CLayers", spec := "lawS2615CLayers", apart := false }
def LawS2615CLayersSaid : Prop := lawS2615CLayersRow.holds Yba.pinned (OpenSpec.ofChange lawS2615CLayersSpec)

/-- ITS FALSE NEIGHBOUR: 'it returns false'. Refute it at one input. -/
def lawS2615CLayersWrong : ChangeSpec := { name := "lawS2615CLayers", fn := fun _ => fun
  | [d] => { results := [.lit (.bool false)], args := [d] }
  | _ => none }
def LawS2615CLayersWrongFalsely : Prop := lawS2615CLayersRow.holds Yba.pinned (OpenSpec.ofChange lawS2615CLayersWrong)

end Rows
end Go.Proofs.Ybulkbbdc
