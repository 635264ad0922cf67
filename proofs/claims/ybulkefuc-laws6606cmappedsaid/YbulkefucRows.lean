/-
  No cell of these rows narrows 'for every input' (looked for: loops, veiled, ifaces, maps, wideKeys, modest, calm, conditions, laid).
  DERIVED. THE GIVEN ROWS OF THIS SEAT. 2 by the template 'for every input the law returns true; each argument reads behind the call as it read before'; 0 by the template 'total and deterministic' (their statements: YbulkefucTotals.lean).
  GIVEN WITH THE SEED: the statements are not yours to turn. If you find one false, say at which input.
  Laid BY PROGRAM, IN A SANDBOX (cutbox-rows.mjs): the forced cells as the released guide's own fill.sh prints them over the translation b5813257fc273773… (all of the seat's roots in one cut). By AI agents, Wed Nov 11 2026. No macro, syntax, notation, axiom, sorry.
-/
import Derived.Test.YbulkefucChecked
import GoSem.Claim
import GoSem.ClaimJoined
import GoSem.ClaimMapViews
import Derived.JoinedTies
import Derived.KernelRfl
namespace Go.Proofs.Ybulkefuc
/- THE CELL 'sum', in the pinned program and in every row, IS THE sha256 OF THE DUMP (.gsa) THAT YbulkefucProg.lean LOADS. Nothing in Lean hashes anything: it is a label: what it is worth is what the hold of that sum in a sandbox is worth. -/
noncomputable def Yba.pinned : Pinned := { name := "ybulkefuc", sum := "b5813257fc2737733c5f7e819c71b0109f7fca9e0b96048821fca57a70ffa3fa", checked := Yba.checked }
namespace Rows
def none {H : Type} : Left H := { results := [], args := [] }

/-- 'swarmline.LawS6606CWhole': WHATEVER THE INPUT: true; the input reads as it did. -/
def lawS6606CWholeSpec : ChangeSpec := { name := "lawS6606CWhole", fn := fun _ => fun
  | [d] => { results := [.lit (.bool true)], args := [d] }
  | _ => none }
def lawS6606CWholeRow : OpenClaim := { program := "ybulkefuc", sum := "b5813257fc2737733c5f7e819c71b0109f7fca9e0b96048821fca57a70ffa3fa", func := "example.com/swarmline/swarmline.LawS6606CWhole", spec := "lawS6606CWhole", apart := false }
def LawS6606CWholeSaid : Prop := lawS6606CWholeRow.holds Yba.pinned (OpenSpec.ofChange lawS6606CWholeSpec)

/-- ITS FALSE NEIGHBOUR: 'it returns false'. Refute it at one input. -/
def lawS6606CWholeWrong : ChangeSpec := { name := "lawS6606CWhole", fn := fun _ => fun
  | [d] => { results := [.lit (.bool false)], args := [d] }
  | _ => none }
def LawS6606CWholeWrongFalsely : Prop := lawS6606CWholeRow.holds Yba.pinned (OpenSpec.ofChange lawS6606CWholeWrong)

/-- 'swarmline.LawS6606CMapped': WHATEVER THE INPUT: true; the input reads as it did. -/
def lawS6606CMappedSpec : ChangeSpec := { name := "lawS6606CMapped", fn := fun _ => fun
  | [d1, d2] => { results := [.lit (.bool true)], args := [d1, d2] }
  | _ => none }
def lawS6606CMappedRow : OpenClaim := { program := "ybulkefuc", sum := "b5813257fc2737733c5f7e819c71b0109f7fca9e0b96048821fca57a70ffa3fa", func := "example.com/swarmline/swarmline.LawS6606CMapped", spec := "lawS6606CMapped", apart := false }
def LawS6606CMappedSaid : Prop := lawS6606CMappedRow.holds Yba.pinned (OpenSpec.ofChange lawS6606CMappedSpec)

/-- ITS FALSE NEIGHBOUR: 'it returns false'. Refute it at one input. -/
def lawS6606CMappedWrong : ChangeSpec := { name := "lawS6606CMapped", fn := fun _ => fun
  | [d1, d2] => { results := [.lit (.bool false)], args := [d1, d2] }
  | _ => none }
def LawS6606CMappedWrongFalsely : Prop := lawS6606CMappedRow.holds Yba.pinned (OpenSpec.ofChange lawS6606CMappedWrong)

end Rows
end Go.Proofs.Ybulkefuc
