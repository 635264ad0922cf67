/-
  No cell of these rows narrows 'for every input' (looked for: loops, veiled, ifaces, maps, wideKeys, modest, calm, conditions, laid).
  DERIVED. THE GIVEN ROWS OF THIS SEAT. 2 by the template 'for every input the law returns true; each argument reads behind the call as it read before'; 0 by the template 'total and deterministic' (their statements: YbulkefsmTotals.lean).
  GIVEN WITH THE SEED: the statements are not yours to turn. If you find one false, say at which input.
  Laid BY PROGRAM, IN A SANDBOX (cutbox-rows.mjs): the forced cells as the released guide's own fill.sh prints them over the translation 2abdbb81e8996358… (all of the seat's roots in one cut). By AI agents, Wed Nov 11 2026. No macro, syntax, notation, axiom, sorry.
-/
import Derived.Test.YbulkefsmChecked
import GoSem.Claim
import GoSem.ClaimJoined
import GoSem.ClaimMapViews
import Derived.JoinedTies
import Derived.KernelRfl
namespace Go.Proofs.Ybulkefsm
/- THE CELL 'sum', in the pinned program and in every row, IS THE sha256 OF THE DUMP (.gsa) THAT YbulkefsmProg.lean LOADS. Nothing in Lean hashes anything: it is a label: what it is worth is what the hold of that sum in a sandbox is worth. -/
noncomputable def Yba.pinned : Pinned := { name := "ybulkefsm", sum := "2abdbb81e8996358595d72dc0a6cb5ee651431729f63be5ec8e401da34e0915e", checked := Yba.checked }
namespace Rows
def none {H : Type} : Left H := { results := [], args := [] }

/-- 'objects.LawS6603BWhole': WHATEVER THE INPUT: true; the input reads as it did. -/
def lawS6603BWholeSpec : ChangeSpec := { name := "lawS6603BWhole", fn := fun _ => fun
  | [d1, d2, d3, d4, d5, d6] => { results := [.lit (.bool true)], args := [d1, d2, d3, d4, d5, d6] }
  | _ => none }
def lawS6603BWholeRow : OpenClaim := { program := "ybulkefsm", sum := "2abdbb81e8996358595d72dc0a6cb5ee651431729f63be5ec8e401da34e0915e", func := "example.com/keelhaven/keelhaven/objects.LawS6603BWhole", spec := "lawS6603BWhole", unfollowed := true, recurses := true, apart := false }
def LawS6603BWholeSaid : Prop := lawS6603BWholeRow.holds Yba.pinned (OpenSpec.ofChange lawS6603BWholeSpec)

/-- ITS FALSE NEIGHBOUR: 'it returns false'. Refute it at one input. -/
def lawS6603BWholeWrong : ChangeSpec := { name := "lawS6603BWhole", fn := fun _ => fun
  | [d1, d2, d3, d4, d5, d6] => { results := [.lit (.bool false)], args := [d1, d2, d3, d4, d5, d6] }
  | _ => none }
def LawS6603BWholeWrongFalsely : Prop := lawS6603BWholeRow.holds Yba.pinned (OpenSpec.ofChange lawS6603BWholeWrong)

/-- 'bench.LawS6603CWhole': WHATEVER THE INPUT: true; the input reads as it did. -/
def lawS6603CWholeSpec : ChangeSpec := { name := "lawS6603CWhole", fn := fun _ => fun
  | [d1, d2, d3] => { results := [.lit (.bool true)], args := [d1, d2, d3] }
  | _ => none }
def lawS6603CWholeRow : OpenClaim := { program := "ybulkefsm", sum := "2abdbb81e8996358595d72dc0a6cb5ee651431729f63be5ec8e401da34e0915e", func := "example.com/keelhaven/keelhaven/bench.LawS6603CWhole", spec := "lawS6603CWhole", apart := false }
def LawS6603CWholeSaid : Prop := lawS6603CWholeRow.holds Yba.pinned (OpenSpec.ofChange lawS6603CWholeSpec)

/-- ITS FALSE NEIGHBOUR: 'it returns false'. Refute it at one input. -/
def lawS6603CWholeWrong : ChangeSpec := { name := "lawS6603CWhole", fn := fun _ => fun
  | [d1, d2, d3] => { results := [.lit (.bool false)], args := [d1, d2, d3] }
  | _ => none }
def LawS6603CWholeWrongFalsely : Prop := lawS6603CWholeRow.holds Yba.pinned (OpenSpec.ofChange lawS6603CWholeWrong)

end Rows
end Go.Proofs.Ybulkefsm
