/-
  No cell of these rows narrows 'for every input' (looked for: loops, veiled, ifaces, maps, wideKeys, modest, calm, conditions, laid).
  DERIVED. THE GIVEN ROWS OF THIS SEAT. 2 by the template 'for every input the law returns true; each argument reads behind the call as it read before'; 0 by the template 'total and deterministic' (their statements: YbulkbbesTotals.lean).
  GIVEN WITH THE SEED: the statements are not yours to turn. If you find one false, say at which input.
  Laid BY PROGRAM, IN A SANDBOX (cutbox-rows.mjs): the forced cells as the released guide's own fill.sh prints them over the translation f084174d9188dcf6… (all of the seat's roots in one cut). By AI agents, Wed Nov 11 2026. No macro, syntax, notation, axiom, sorry.
-/
import Derived.Test.YbulkbbesChecked
import GoSem.Claim
import GoSem.ClaimJoined
import GoSem.ClaimMapViews
import Derived.JoinedTies
import Derived.KernelRfl
namespace Go.Proofs.Ybulkbbes
/- THE CELL 'sum', in the pinned program and in every row, IS THE sha256 OF THE DUMP (.gsa) THAT YbulkbbesProg.lean LOADS. Nothing in Lean hashes anything: it is a label: what it is worth is what the hold of that sum in a sandbox is worth. -/
noncomputable def Yba.pinned : Pinned := { name := "ybulkbbes", sum := "f084174d9188dcf62e1b89cb7d6e59cf3b2ab4ae93e58d784fabc1b90dca5baa", checked := Yba.checked }
namespace Rows
def none {H : Type} : Left H := { results := [], args := [] }

/-- 'edikt.LawS2618BBits': WHATEVER THE INPUT: true; the input reads as it did. -/
def lawS2618BBitsSpec : ChangeSpec := { name := "lawS2618BBits", fn := fun _ => fun
  | [d] => { results := [.lit (.bool true)], args := [d] }
  | _ => none }
def lawS2618BBitsRow : OpenClaim := { program := "ybulkbbes", sum := "f084174d9188dcf62e1b89cb7d6e59cf3b2ab4ae93e58d784fabc1b90dca5baa", func := "example.com/edikt/edikt.LawS2618BBits", spec := "lawS2618BBits", inPlace := ["math.Float64frombits", "math.Float64bits"], apart := false }
def LawS2618BBitsSaid : Prop := lawS2618BBitsRow.holds Yba.pinned (OpenSpec.ofChange lawS2618BBitsSpec)

/-- ITS FALSE NEIGHBOUR: 'it returns false'. Refute it at one input. -/
def lawS2618BBitsWrong : ChangeSpec := { name := "lawS2618BBits", fn := fun _ => fun
  | [d] => { results := [.lit (.bool false)], args := [d] }
  | _ => none }
def LawS2618BBitsWrongFalsely : Prop := lawS2618BBitsRow.holds Yba.pinned (OpenSpec.ofChange lawS2618BBitsWrong)

/-- 'edikt.LawS2618BOrder': WHATEVER THE INPUT: true; the input reads as it did. -/
def lawS2618BOrderSpec : ChangeSpec := { name := "lawS2618BOrder", fn := fun _ => fun
  | [d1, d2] => { results := [.lit (.bool true)], args := [d1, d2] }
  | _ => none }
def lawS2618BOrderRow : OpenClaim := { program := "ybulkbbes", sum := "f084174d9188dcf62e1b89cb7d6e59cf3b2ab4ae93e58d784fabc1b90dca5baa", func := "example.com/edikt/edikt.LawS2618BOrder", spec := "lawS2618BOrder", inPlace := ["math.Float64frombits"], apart := false }
def LawS2618BOrderSaid : Prop := lawS2618BOrderRow.holds Yba.pinned (OpenSpec.ofChange lawS2618BOrderSpec)

/-- ITS FALSE NEIGHBOUR: 'it returns false'. Refute it at one input. -/
def lawS2618BOrderWrong : ChangeSpec := { name := "lawS2618BOrder", fn := fun _ => fun
  | [d1, d2] => { results := [.lit (.bool false)], args := [d1, d2] }
  | _ => none }
def LawS2618BOrderWrongFalsely : Prop := lawS2618BOrderRow.holds Yba.pinned (OpenSpec.ofChange lawS2618BOrderWrong)

end Rows
end Go.Proofs.Ybulkbbes
