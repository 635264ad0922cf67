/-
  No cell of these rows narrows 'for every input' (looked for: loops, veiled, ifaces, maps, wideKeys, modest, calm, conditions, laid).
  DERIVED. THE GIVEN ROWS OF THIS SEAT. 1 by the template 'for every input the law returns true; each argument reads behind the call as it read before'; 0 by the template 'total and deterministic' (their statements: YbulkefryTotals.lean).
  GIVEN WITH THE SEED: the statements are not yours to turn. If you find one false, say at which input.
  Laid BY PROGRAM, IN A SANDBOX (cutbox-rows.mjs): the forced cells as the released guide's own fill.sh prints them over the translation 233ac4f7deea848b… (all of the seat's roots in one cut). By AI agents, Wed Nov 11 2026. No macro, syntax, notation, axiom, sorry.
-/
import Derived.Test.YbulkefryChecked
import GoSem.Claim
import GoSem.ClaimJoined
import GoSem.ClaimMapViews
import Derived.JoinedTies
import Derived.KernelRfl
namespace Go.Proofs.Ybulkefry
/- THE CELL 'sum', in the pinned program and in every row, IS THE sha256 OF THE DUMP (.gsa) THAT YbulkefryProg.lean LOADS. Nothing in Lean hashes anything: it is a label: what it is worth is what the hold of that sum in a sandbox is worth. -/
noncomputable def Yba.pinned : Pinned := { name := "ybulkefry", sum := "233ac4f7deea848b352196c0b9d3629efa95212458c156fc925406651013a188", checked := Yba.checked }
namespace Rows
def none {H : Type} : Left H := { results := [], args := [] }

/-- 'policy.LawS6602CWhole': WHATEVER THE INPUT: true; the input reads as it did. -/
def lawS6602CWholeSpec : ChangeSpec := { name := "lawS6602CWhole", fn := fun _ => fun
  | [d1, d2, d3] => { results := [.lit (.bool true)], args := [d1, d2, d3] }
  | _ => none }
def lawS6602CWholeRow : OpenClaim := { program := "ybulkefry", sum := "233ac4f7deea848b352196c0b9d3629efa95212458c156fc925406651013a188", func := "example.com/spillway/spillway/pkg/policy.LawS6602CWhole", spec := "lawS6602CWhole", unfollowed := true, recurses := true, plainKeys := false, apart := false }
def LawS6602CWholeSaid : Prop := lawS6602CWholeRow.holds Yba.pinned (OpenSpec.ofChange lawS6602CWholeSpec)

/-- ITS FALSE NEIGHBOUR: 'it returns false'. Refute it at one input. -/
def lawS6602CWholeWrong : ChangeSpec := { name := "lawS6602CWhole", fn := fun _ => fun
  | [d1, d2, d3] => { results := [.lit (.bool false)], args := [d1, d2, d3] }
  | _ => none }
def LawS6602CWholeWrongFalsely : Prop := lawS6602CWholeRow.holds Yba.pinned (OpenSpec.ofChange lawS6602CWholeWrong)

end Rows
end Go.Proofs.Ybulkefry
