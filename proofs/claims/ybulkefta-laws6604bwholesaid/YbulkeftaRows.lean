/-
  No cell of these rows narrows 'for every input' (looked for: loops, veiled, ifaces, maps, wideKeys, modest, calm, conditions, laid).
  DERIVED. THE GIVEN ROWS OF THIS SEAT. 2 by the template 'for every input the law returns true; each argument reads behind the call as it read before'; 0 by the template 'total and deterministic' (their statements: YbulkeftaTotals.lean).
  GIVEN WITH THE SEED: the statements are not yours to turn. If you find one false, say at which input.
  Laid BY PROGRAM, IN A SANDBOX (cutbox-rows.mjs): the forced cells as the released guide's own fill.sh prints them over the translation 736595e4b99e142a… (all of the seat's roots in one cut). By AI agents, Wed Nov 11 2026. No macro, syntax, notation, axiom, sorry.
-/
import Derived.Test.YbulkeftaChecked
import GoSem.Claim
import GoSem.ClaimJoined
import GoSem.ClaimMapViews
import Derived.JoinedTies
import Derived.KernelRfl
namespace Go.Proofs.Ybulkefta
/- THE CELL 'sum', in the pinned program and in every row, IS THE sha256 OF THE DUMP (.gsa) THAT YbulkeftaProg.lean LOADS. Nothing in Lean hashes anything: it is a label: what it is worth is what the hold of that sum in a sandbox is worth. -/
noncomputable def Yba.pinned : Pinned := { name := "ybulkefta", sum := "736595e4b99e142a1a6f3f2a330e0f77e5105d25846c327d7d086b5961fb2c9e", checked := Yba.checked }
namespace Rows
def none {H : Type} : Left H := { results := [], args := [] }

/-- 'backdate.LawS6604AWhole': WHATEVER THE INPUT: true; the input reads as it did. -/
def lawS6604AWholeSpec : ChangeSpec := { name := "lawS6604AWhole", fn := fun _ => fun
  | [d1, d2, d3] => { results := [.lit (.bool true)], args := [d1, d2, d3] }
  | _ => none }
def lawS6604AWholeRow : OpenClaim := { program := "ybulkefta", sum := "736595e4b99e142a1a6f3f2a330e0f77e5105d25846c327d7d086b5961fb2c9e", func := "example.com/backdate/backdate.LawS6604AWhole", spec := "lawS6604AWhole", unfollowed := true, recurses := true, apart := false }
def LawS6604AWholeSaid : Prop := lawS6604AWholeRow.holds Yba.pinned (OpenSpec.ofChange lawS6604AWholeSpec)

/-- ITS FALSE NEIGHBOUR: 'it returns false'. Refute it at one input. -/
def lawS6604AWholeWrong : ChangeSpec := { name := "lawS6604AWhole", fn := fun _ => fun
  | [d1, d2, d3] => { results := [.lit (.bool false)], args := [d1, d2, d3] }
  | _ => none }
def LawS6604AWholeWrongFalsely : Prop := lawS6604AWholeRow.holds Yba.pinned (OpenSpec.ofChange lawS6604AWholeWrong)

/-- 'backdate.LawS6604BWhole': WHATEVER THE INPUT: true; the input reads as it did. -/
def lawS6604BWholeSpec : ChangeSpec := { name := "lawS6604BWhole", fn := fun _ => fun
  | [d1, d2] => { results := [.lit (.bool true)], args := [d1, d2] }
  | _ => none }
def lawS6604BWholeRow : OpenClaim := { program := "ybulkefta", sum := "736595e4b99e142a1a6f3f2a330e0f77e5105d25846c327d7d086b5961fb2c9e", func := "example.com/backdate/backdate.LawS6604BWhole", spec := "lawS6604BWhole", unfollowed := true, recurses := true, apart := false }
def LawS6604BWholeSaid : Prop := lawS6604BWholeRow.holds Yba.pinned (OpenSpec.ofChange lawS6604BWholeSpec)

/-- ITS FALSE NEIGHBOUR: 'it returns false'. Refute it at one input. -/
def lawS6604BWholeWrong : ChangeSpec := { name := "lawS6604BWhole", fn := fun _ => fun
  | [d1, d2] => { results := [.lit (.bool false)], args := [d1, d2] }
  | _ => none }
def LawS6604BWholeWrongFalsely : Prop := lawS6604BWholeRow.holds Yba.pinned (OpenSpec.ofChange lawS6604BWholeWrong)

end Rows
end Go.Proofs.Ybulkefta
