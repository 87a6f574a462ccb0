/-
  DERIVED. GIVEN WITH THE SEED: THE CARDS: each row of YbulkcfhcFmtRows.lean that lists a variable, with what it lists TIED to the program's text (the seventh form; the later family's looks); each row that meets fmt, with fmt's text TOLD by the authors' own Lean function (tested against real Go, not proved from fmt's source: count such statements apart). THE CARD IS WHAT COUNTS. Prove the row's statement (the work); the ties are given (YbulkcfhcFmtTie.lean); close each card by the builder's one call (the guide's Derived/Test/ToyasCard.lean, 'card_holds'). Laid BY PROGRAM, IN A SANDBOX (cutbox-door.mjs). By AI agents, Wed Nov 11 2026. No macro, syntax, notation, axiom, sorry.
-/
import Derived.Test.YbulkcfhcFmtRows
import GoSem.ClaimSeven
namespace Go.Proofs.YbulkcfhcFmt
namespace Rows

/-- THE TOLD CARD OF 'parley.LawS4071BDecode'. -/
def lawS4071BDecodeCard : Claim7 := { stood := { row := lawS4071BDecodeRow, standIns := [], harness := (true, "e8f6365f3620e1a62dcfe689a75e63c099a182ee212b8143f4ec754aa7f74183"), looks := false }, told := true, goes := false }
def LawS4071BDecodeToldSaid : Prop := Claim7.holds Ybaf.pinned (.plain (OpenSpec.ofChange lawS4071BDecodeSpec)) lawS4071BDecodeCard
/-- ITS FALSE NEIGHBOUR. Refute it at one input. -/
def LawS4071BDecodeToldWrongFalsely : Prop := Claim7.holds Ybaf.pinned (.plain (OpenSpec.ofChange lawS4071BDecodeWrong)) lawS4071BDecodeCard

/-- THE TOLD CARD OF 'parley.LawS4071BRoundTrip'. -/
def lawS4071BRoundTripCard : Claim7 := { stood := { row := lawS4071BRoundTripRow, standIns := [], harness := (true, "e8f6365f3620e1a62dcfe689a75e63c099a182ee212b8143f4ec754aa7f74183"), looks := false }, told := true, goes := false }
def LawS4071BRoundTripToldSaid : Prop := Claim7.holds Ybaf.pinned (.plain (OpenSpec.ofChange lawS4071BRoundTripSpec)) lawS4071BRoundTripCard
/-- ITS FALSE NEIGHBOUR. Refute it at one input. -/
def LawS4071BRoundTripToldWrongFalsely : Prop := Claim7.holds Ybaf.pinned (.plain (OpenSpec.ofChange lawS4071BRoundTripWrong)) lawS4071BRoundTripCard
end Rows
end Go.Proofs.YbulkcfhcFmt
