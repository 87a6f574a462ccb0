/-
  No cell of these rows narrows 'for every input' (looked for: loops, veiled, ifaces, maps, wideKeys, modest, calm, conditions, laid).
  DERIVED. THE GIVEN ROWS OF THIS SEAT. 3 by the template 'for every input the law returns true; each argument reads behind the call as it read before'; 0 by the template 'total and deterministic' (their statements: YbulkcfgoTotals.lean).
  GIVEN WITH THE SEED: the statements are not yours to turn. If you find one false, say at which input.
  Laid BY PROGRAM, IN A SANDBOX (cutbox-rows.mjs): the forced cells as the released guide's own fill.sh prints them over the translation 0b426837f1117b6b… (all of the seat's roots in one cut). By AI agents, Wed Nov 11 2026. No macro, syntax, notation, axiom, sorry.
-/
import Derived.Test.YbulkcfgoChecked
import GoSem.Claim
import GoSem.ClaimJoined
import GoSem.ClaimMapViews
import Derived.JoinedTies
import Derived.KernelRfl
namespace Go.Proofs.Ybulkcfgo
/- THE CELL 'sum', in the pinned program and in every row, IS THE sha256 OF THE DUMP (.gsa) THAT YbulkcfgoProg.lean LOADS. Nothing in Lean hashes anything: it is a label: what it is worth is what the hold of that sum in a sandbox is worth. -/
noncomputable def Yba.pinned : Pinned := { name := "ybulkcfgo", sum := "0b426837f1117b6b19252ce8925364fcf9136eb02781c9f7c04c2460eaf6ead2", checked := Yba.checked }
namespace Rows
def none {H : Type} : Left H := { results := [], args := [] }

/-- 'om.LawS4070BStep': WHATEVER THE INPUT: true; the input reads as it did. -/
def lawS4070BStepSpec : ChangeSpec := { name := "lawS4070BStep", fn := fun _ => fun
  | [d1, d2] => { results := [.lit (.bool true)], args := [d1, d2] }
  | _ => none }
def lawS4070BStepRow : OpenClaim := { program := "ybulkcfgo", sum := "0b426837f1117b6b19252ce8925364fcf9136eb02781c9f7c04c2460eaf6ead2", func := "example.com/fealty/fealty/pkg/om.LawS4070BStep", spec := "lawS4070BStep", apart := false }
def LawS4070BStepSaid : Prop := lawS4070BStepRow.holds Yba.pinned (OpenSpec.ofChange lawS4070BStepSpec)

/-- ITS FALSE NEIGHBOUR: 'it returns false'. Refute it at one input. -/
def lawS4070BStepWrong : ChangeSpec := { name := "lawS4070BStep", fn := fun _ => fun
  | [d1, d2] => { results := [.lit (.bool false)], args := [d1, d2] }
  | _ => none }
def LawS4070BStepWrongFalsely : Prop := lawS4070BStepRow.holds Yba.pinned (OpenSpec.ofChange lawS4070BStepWrong)

/-- 'om.LawS4070BCycle': WHATEVER THE INPUT: true; the input reads as it did. -/
def lawS4070BCycleSpec : ChangeSpec := { name := "lawS4070BCycle", fn := fun _ => fun
  | [d1, d2] => { results := [.lit (.bool true)], args := [d1, d2] }
  | _ => none }
def lawS4070BCycleRow : OpenClaim := { program := "ybulkcfgo", sum := "0b426837f1117b6b19252ce8925364fcf9136eb02781c9f7c04c2460eaf6ead2", func := "example.com/fealty/fealty/pkg/om.LawS4070BCycle", spec := "lawS4070BCycle", apart := false }
def LawS4070BCycleSaid : Prop := lawS4070BCycleRow.holds Yba.pinned (OpenSpec.ofChange lawS4070BCycleSpec)

/-- ITS FALSE NEIGHBOUR: 'it returns false'. Refute it at one input. -/
def lawS4070BCycleWrong : ChangeSpec := { name := "lawS4070BCycle", fn := fun _ => fun
  | [d1, d2] => { results := [.lit (.bool false)], args := [d1, d2] }
  | _ => none }
def LawS4070BCycleWrongFalsely : Prop := lawS4070BCycleRow.holds Yba.pinned (OpenSpec.ofChange lawS4070BCycleWrong)

/-- 'om.LawS4070CLists': WHATEVER THE INPUT: true; the input reads as it did. -/
def lawS4070CListsSpec : ChangeSpec := { name := "lawS4070CLists", fn := fun _ => fun
  | [d1, d2] => { results := [.lit (.bool true)], args := [d1, d2] }
  | _ => none }
def lawS4070CListsRow : OpenClaim := { program := "ybulkcfgo", sum := "0b426837f1117b6b19252ce8925364fcf9136eb02781c9f7c04c2460eaf6ead2", func := "example.com/fealty/fealty/pkg/om.LawS4070CLists", spec := "lawS4070CLists", apart := false }
def LawS4070CListsSaid : Prop := lawS4070CListsRow.holds Yba.pinned (OpenSpec.ofChange lawS4070CListsSpec)

/-- ITS FALSE NEIGHBOUR: 'it returns false'. Refute it at one input. -/
def lawS4070CListsWrong : ChangeSpec := { name := "lawS4070CLists", fn := fun _ => fun
  | [d1, d2] => { results := [.lit (.bool false)], args := [d1, d2] }
  | _ => none }
def LawS4070CListsWrongFalsely : Prop := lawS4070CListsRow.holds Yba.pinned (OpenSpec.ofChange lawS4070CListsWrong)

end Rows
end Go.Proofs.Ybulkcfgo
