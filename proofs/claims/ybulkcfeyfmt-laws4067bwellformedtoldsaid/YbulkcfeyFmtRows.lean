/-
  No cell of these rows narrows 'for every input' (looked for: loops, veiled, ifaces, maps, wideKeys, modest, calm, conditions, laid).
  DERIVED. THE GIVEN ROWS OF THIS SEAT. 4 by the template 'for every input the law returns true; each argument reads behind the call as it read before'; 0 by the template 'total and deterministic' (their statements: YbulkcfeyFmtTotals.lean).
  GIVEN WITH THE SEED: the statements are not yours to turn. If you find one false, say at which input.
  Laid BY PROGRAM, IN A SANDBOX (cutbox-rows.mjs): the forced cells as the released guide's own fill.sh prints them over the translation 2f448ce870c1b33a… (all of the seat's roots in one cut). By AI agents, Wed Nov 11 2026. No macro, syntax, notation, axiom, sorry.
-/
import Derived.Test.YbulkcfeyFmtChecked
import GoSem.Claim
import GoSem.ClaimJoined
import GoSem.ClaimMapViews
import Derived.JoinedTies
import Derived.KernelRfl
namespace Go.Proofs.YbulkcfeyFmt
/- THE CELL 'sum', in the pinned program and in every row, IS THE sha256 OF THE DUMP (.gsa) THAT YbulkcfeyFmtProg.lean LOADS. Nothing in Lean hashes anything: it is a label: what it is worth is what the hold of that sum in a sandbox is worth. -/
noncomputable def Ybaf.pinned : Pinned := { name := "ybulkcfeyfmt", sum := "2f448ce870c1b33a47e2180a5f3be7405d8c90a3420dad3adda9543732b4598a", checked := Ybaf.checked }
namespace Rows
def none {H : Type} : Left H := { results := [], args := [] }

/-- 'ambit.LawS4067AModel': WHATEVER THE INPUT: true; the input reads as it did. -/
def lawS4067AModelSpec : ChangeSpec := { name := "lawS4067AModel", fn := fun _ => fun
  | [d1, d2, d3] => { results := [.lit (.bool true)], args := [d1, d2, d3] }
  | _ => none }
def lawS4067AModelRow : OpenClaim := { program := "ybulkcfeyfmt", sum := "2f448ce870c1b33a47e2180a5f3be7405d8c90a3420dad3adda9543732b4598a", func := "example.com/ambit/ambit.LawS4067AModel", spec := "lawS4067AModel", stops := ["fmt.Sprintf"], inPlace := ["fmt.Sprintf", "internal/abi.NoEscape", "internal/bytealg.MakeNoZero", "internal/bytealg.IndexByteString", "internal/bytealg.IndexString"], named := ["internal/bytealg.MaxLen"], apart := false }
/-- NO THEOREM (fmt's text is open here; it may be false): for the released tool's asking of the row's closed facts alone. THE STATEMENT IS 'LawS4067AModelToldSaid' (YbulkcfeyFmtCards.lean). -/
def LawS4067AModelFormAsk : Prop := lawS4067AModelRow.holds Ybaf.pinned (OpenSpec.ofChange lawS4067AModelSpec)

/-- ITS FALSE NEIGHBOUR: 'it returns false'. Refute it at one input. -/
def lawS4067AModelWrong : ChangeSpec := { name := "lawS4067AModel", fn := fun _ => fun
  | [d1, d2, d3] => { results := [.lit (.bool false)], args := [d1, d2, d3] }
  | _ => none }
def LawS4067AModelWrongFormAsk : Prop := lawS4067AModelRow.holds Ybaf.pinned (OpenSpec.ofChange lawS4067AModelWrong)

/-- 'ambit.LawS4067ABound': WHATEVER THE INPUT: true; the input reads as it did. -/
def lawS4067ABoundSpec : ChangeSpec := { name := "lawS4067ABound", fn := fun _ => fun
  | [d1, d2, d3] => { results := [.lit (.bool true)], args := [d1, d2, d3] }
  | _ => none }
def lawS4067ABoundRow : OpenClaim := { program := "ybulkcfeyfmt", sum := "2f448ce870c1b33a47e2180a5f3be7405d8c90a3420dad3adda9543732b4598a", func := "example.com/ambit/ambit.LawS4067ABound", spec := "lawS4067ABound", stops := ["fmt.Sprintf"], inPlace := ["fmt.Sprintf", "internal/abi.NoEscape", "internal/bytealg.MakeNoZero", "internal/bytealg.IndexByteString", "internal/bytealg.IndexString"], named := ["internal/bytealg.MaxLen"], apart := false }
/-- NO THEOREM (fmt's text is open here; it may be false): for the released tool's asking of the row's closed facts alone. THE STATEMENT IS 'LawS4067ABoundToldSaid' (YbulkcfeyFmtCards.lean). -/
def LawS4067ABoundFormAsk : Prop := lawS4067ABoundRow.holds Ybaf.pinned (OpenSpec.ofChange lawS4067ABoundSpec)

/-- ITS FALSE NEIGHBOUR: 'it returns false'. Refute it at one input. -/
def lawS4067ABoundWrong : ChangeSpec := { name := "lawS4067ABound", fn := fun _ => fun
  | [d1, d2, d3] => { results := [.lit (.bool false)], args := [d1, d2, d3] }
  | _ => none }
def LawS4067ABoundWrongFormAsk : Prop := lawS4067ABoundRow.holds Ybaf.pinned (OpenSpec.ofChange lawS4067ABoundWrong)

/-- 'ambit.LawS4067BModel': WHATEVER THE INPUT: true; the input reads as it did. -/
def lawS4067BModelSpec : ChangeSpec := { name := "lawS4067BModel", fn := fun _ => fun
  | [d1, d2] => { results := [.lit (.bool true)], args := [d1, d2] }
  | _ => none }
def lawS4067BModelRow : OpenClaim := { program := "ybulkcfeyfmt", sum := "2f448ce870c1b33a47e2180a5f3be7405d8c90a3420dad3adda9543732b4598a", func := "example.com/ambit/ambit.LawS4067BModel", spec := "lawS4067BModel", stops := ["fmt.Sprintf"], inPlace := ["fmt.Sprintf"], apart := false }
/-- NO THEOREM (fmt's text is open here; it may be false): for the released tool's asking of the row's closed facts alone. THE STATEMENT IS 'LawS4067BModelToldSaid' (YbulkcfeyFmtCards.lean). -/
def LawS4067BModelFormAsk : Prop := lawS4067BModelRow.holds Ybaf.pinned (OpenSpec.ofChange lawS4067BModelSpec)

/-- ITS FALSE NEIGHBOUR: 'it returns false'. Refute it at one input. -/
def lawS4067BModelWrong : ChangeSpec := { name := "lawS4067BModel", fn := fun _ => fun
  | [d1, d2] => { results := [.lit (.bool false)], args := [d1, d2] }
  | _ => none }
def LawS4067BModelWrongFormAsk : Prop := lawS4067BModelRow.holds Ybaf.pinned (OpenSpec.ofChange lawS4067BModelWrong)

/-- 'ambit.LawS4067BWellFormed': WHATEVER THE INPUT: true; the input reads as it did. -/
def lawS4067BWellFormedSpec : ChangeSpec := { name := "lawS4067BWellFormed", fn := fun _ => fun
  | [d1, d2, d3] => { results := [.lit (.bool true)], args := [d1, d2, d3] }
  | _ => none }
def lawS4067BWellFormedRow : OpenClaim := { program := "ybulkcfeyfmt", sum := "2f448ce870c1b33a47e2180a5f3be7405d8c90a3420dad3adda9543732b4598a", func := "example.com/ambit/ambit.LawS4067BWellFormed", spec := "lawS4067BWellFormed", stops := ["fmt.Sprintf"], inPlace := ["fmt.Sprintf"], apart := false }
/-- NO THEOREM (fmt's text is open here; it may be false): for the released tool's asking of the row's closed facts alone. THE STATEMENT IS 'LawS4067BWellFormedToldSaid' (YbulkcfeyFmtCards.lean). -/
def LawS4067BWellFormedFormAsk : Prop := lawS4067BWellFormedRow.holds Ybaf.pinned (OpenSpec.ofChange lawS4067BWellFormedSpec)

/-- ITS FALSE NEIGHBOUR: 'it returns false'. Refute it at one input. -/
def lawS4067BWellFormedWrong : ChangeSpec := { name := "lawS4067BWellFormed", fn := fun _ => fun
  | [d1, d2, d3] => { results := [.lit (.bool false)], args := [d1, d2, d3] }
  | _ => none }
def LawS4067BWellFormedWrongFormAsk : Prop := lawS4067BWellFormedRow.holds Ybaf.pinned (OpenSpec.ofChange lawS4067BWellFormedWrong)

end Rows
end Go.Proofs.YbulkcfeyFmt
