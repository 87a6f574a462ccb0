/-
  No cell of these rows narrows 'for every input' (looked for: loops, veiled, ifaces, maps, wideKeys, modest, calm, conditions, laid).
  DERIVED. THE GIVEN ROWS OF THIS SEAT. 1 by the template 'for every input the law returns true; each argument reads behind the call as it read before'; 0 by the template 'total and deterministic' (their statements: YbulkcflkTotals.lean).
  GIVEN WITH THE SEED: the statements are not yours to turn. If you find one false, say at which input.
  Laid BY PROGRAM, IN A SANDBOX (cutbox-rows.mjs): the forced cells as the released guide's own fill.sh prints them over the translation 278155a671271031… (all of the seat's roots in one cut). By AI agents, Wed Nov 11 2026. No macro, syntax, notation, axiom, sorry.
-/
import Derived.Test.YbulkcflkChecked
import GoSem.Claim
import GoSem.ClaimJoined
import GoSem.ClaimMapViews
import Derived.JoinedTies
import Derived.KernelRfl
namespace Go.Proofs.Ybulkcflk
/- THE CELL 'sum', in the pinned program and in every row, IS THE sha256 OF THE DUMP (.gsa) THAT YbulkcflkProg.lean LOADS. Nothing in Lean hashes anything: it is a label: what it is worth is what the hold of that sum in a sandbox is worth. -/
noncomputable def Yba.pinned : Pinned := { name := "ybulkcflk", sum := "278155a671271031e5da901f7bbf8edbad17f404e637a6120c4e47d27d5ce827", checked := Yba.checked }
namespace Rows
def none {H : Type} : Left H := { results := [], args := [] }

/-- 'syntax.LawS4079CReads': WHATEVER THE INPUT: true; the input reads as it did. -/
def lawS4079CReadsSpec : ChangeSpec := { name := "lawS4079CReads", fn := fun _ => fun
  | [d1, d2, d3, d4, d5] => { results := [.lit (.bool true)], args := [d1, d2, d3, d4, d5] }
  | _ => none }
def lawS4079CReadsRow : OpenClaim := { program := "ybulkcflk", sum := "278155a671271031e5da901f7bbf8edbad17f404e637a6120c4e47d27d5ce827", func := "example.com/quillon/quillon/internal/syntax.LawS4079CReads", spec := "lawS4079CReads", unfollowed := true, recurses := true, apart := false }
def LawS4079CReadsSaid : Prop := lawS4079CReadsRow.holds Yba.pinned (OpenSpec.ofChange lawS4079CReadsSpec)

/-- ITS FALSE NEIGHBOUR: 'it returns false'. Refute it at one input. -/
def lawS4079CReadsWrong : ChangeSpec := { name := "lawS4079CReads", fn := fun _ => fun
  | [d1, d2, d3, d4, d5] => { results := [.lit (.bool false)], args := [d1, d2, d3, d4, d5] }
  | _ => none }
def LawS4079CReadsWrongFalsely : Prop := lawS4079CReadsRow.holds Yba.pinned (OpenSpec.ofChange lawS4079CReadsWrong)

end Rows
end Go.Proofs.Ybulkcflk
