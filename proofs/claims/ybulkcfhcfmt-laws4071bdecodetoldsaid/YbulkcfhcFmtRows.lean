/-
  No cell of these rows narrows 'for every input' (looked for: loops, veiled, ifaces, maps, wideKeys, modest, calm, conditions, laid).
  DERIVED. THE GIVEN ROWS OF THIS SEAT. 2 by the template 'for every input the law returns true; each argument reads behind the call as it read before'; 0 by the template 'total and deterministic' (their statements: YbulkcfhcFmtTotals.lean).
  GIVEN WITH THE SEED: the statements are not yours to turn. If you find one false, say at which input.
  Laid BY PROGRAM, IN A SANDBOX (cutbox-rows.mjs): the forced cells as the released guide's own fill.sh prints them over the translation 971f483f2a9c3d1a… (all of the seat's roots in one cut). By AI agents, Wed Nov 11 2026. No macro, syntax, notation, axiom, sorry.
-/
import Derived.Test.YbulkcfhcFmtChecked
import GoSem.Claim
import GoSem.ClaimJoined
import GoSem.ClaimMapViews
import Derived.JoinedTies
import Derived.KernelRfl
namespace Go.Proofs.YbulkcfhcFmt
/- THE CELL 'sum', in the pinned program and in every row, IS THE sha256 OF THE DUMP (.gsa) THAT YbulkcfhcFmtProg.lean LOADS. Nothing in Lean hashes anything: it is a label: what it is worth is what the hold of that sum in a sandbox is worth. -/
noncomputable def Ybaf.pinned : Pinned := { name := "ybulkcfhcfmt", sum := "971f483f2a9c3d1a2c1cd534b8b573a38f9b3d57a327a25d7547b3052e526cdf", checked := Ybaf.checked }
namespace Rows
def none {H : Type} : Left H := { results := [], args := [] }

/-- 'parley.LawS4071BDecode': WHATEVER THE INPUT: true; the input reads as it did. -/
def lawS4071BDecodeSpec : ChangeSpec := { name := "lawS4071BDecode", fn := fun _ => fun
  | [d1, d2] => { results := [.lit (.bool true)], args := [d1, d2] }
  | _ => none }
def lawS4071BDecodeRow : OpenClaim := { program := "ybulkcfhcfmt", sum := "971f483f2a9c3d1a2c1cd534b8b573a38f9b3d57a327a25d7547b3052e526cdf", func := "example.com/parley/parley.LawS4071BDecode", spec := "lawS4071BDecode", stops := ["fmt.errorf"], inPlace := ["fmt.errorf"], unfollowed := true, recurses := true, named := ["encoding/binary.BigEndian"], apart := false }
/-- NO THEOREM (fmt's text is open here; it may be false): for the released tool's asking of the row's closed facts alone. THE STATEMENT IS 'LawS4071BDecodeToldSaid' (YbulkcfhcFmtCards.lean). -/
def LawS4071BDecodeFormAsk : Prop := lawS4071BDecodeRow.holds Ybaf.pinned (OpenSpec.ofChange lawS4071BDecodeSpec)

/-- ITS FALSE NEIGHBOUR: 'it returns false'. Refute it at one input. -/
def lawS4071BDecodeWrong : ChangeSpec := { name := "lawS4071BDecode", fn := fun _ => fun
  | [d1, d2] => { results := [.lit (.bool false)], args := [d1, d2] }
  | _ => none }
def LawS4071BDecodeWrongFormAsk : Prop := lawS4071BDecodeRow.holds Ybaf.pinned (OpenSpec.ofChange lawS4071BDecodeWrong)

/-- 'parley.LawS4071BRoundTrip': WHATEVER THE INPUT: true; the input reads as it did. -/
def lawS4071BRoundTripSpec : ChangeSpec := { name := "lawS4071BRoundTrip", fn := fun _ => fun
  | [d1, d2] => { results := [.lit (.bool true)], args := [d1, d2] }
  | _ => none }
def lawS4071BRoundTripRow : OpenClaim := { program := "ybulkcfhcfmt", sum := "971f483f2a9c3d1a2c1cd534b8b573a38f9b3d57a327a25d7547b3052e526cdf", func := "example.com/parley/parley.LawS4071BRoundTrip", spec := "lawS4071BRoundTrip", stops := ["fmt.errorf"], inPlace := ["fmt.errorf"], unfollowed := true, recurses := true, named := ["encoding/binary.BigEndian"], apart := false }
/-- NO THEOREM (fmt's text is open here; it may be false): for the released tool's asking of the row's closed facts alone. THE STATEMENT IS 'LawS4071BRoundTripToldSaid' (YbulkcfhcFmtCards.lean). -/
def LawS4071BRoundTripFormAsk : Prop := lawS4071BRoundTripRow.holds Ybaf.pinned (OpenSpec.ofChange lawS4071BRoundTripSpec)

/-- ITS FALSE NEIGHBOUR: 'it returns false'. Refute it at one input. -/
def lawS4071BRoundTripWrong : ChangeSpec := { name := "lawS4071BRoundTrip", fn := fun _ => fun
  | [d1, d2] => { results := [.lit (.bool false)], args := [d1, d2] }
  | _ => none }
def LawS4071BRoundTripWrongFormAsk : Prop := lawS4071BRoundTripRow.holds Ybaf.pinned (OpenSpec.ofChange lawS4071BRoundTripWrong)

end Rows
end Go.Proofs.YbulkcfhcFmt
