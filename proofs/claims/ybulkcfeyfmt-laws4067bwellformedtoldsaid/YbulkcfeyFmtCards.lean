/-
  DERIVED. GIVEN WITH THE SEED: THE CARDS: each row of YbulkcfeyFmtRows.lean that lists a variable, with what it lists TIED to the program's text (the seventh form; the later family's looks); each row that meets fmt, with fmt's text TOLD by the authors' own Lean function (tested against real Go, not proved from fmt's source: count such statements apart). THE CARD IS WHAT COUNTS. Prove the row's statement (the work); the ties are given (YbulkcfeyFmtTie.lean); close each card by the builder's one call (the guide's Derived/Test/ToyasCard.lean, 'card_holds'). Laid BY PROGRAM, IN A SANDBOX (cutbox-door.mjs). By AI agents, Wed Nov 11 2026. No macro, syntax, notation, axiom, sorry.
-/
import Derived.Test.YbulkcfeyFmtRows
import GoSem.ClaimSeven
namespace Go.Proofs.YbulkcfeyFmt
namespace Rows

/-- THE TOLD CARD OF 'ambit.LawS4067AModel'. -/
def lawS4067AModelCard : Claim7 := { stood := { row := lawS4067AModelRow, standIns := [], harness := (true, "f5d68d49db7b0a126276b70a515c2e0a0f5f46fa87ef261addba37f01b9b4c22"), looks := false }, told := true, goes := false }
def LawS4067AModelToldSaid : Prop := Claim7.holds Ybaf.pinned (.plain (OpenSpec.ofChange lawS4067AModelSpec)) lawS4067AModelCard
/-- ITS FALSE NEIGHBOUR. Refute it at one input. -/
def LawS4067AModelToldWrongFalsely : Prop := Claim7.holds Ybaf.pinned (.plain (OpenSpec.ofChange lawS4067AModelWrong)) lawS4067AModelCard

/-- THE TOLD CARD OF 'ambit.LawS4067ABound'. -/
def lawS4067ABoundCard : Claim7 := { stood := { row := lawS4067ABoundRow, standIns := [], harness := (true, "f5d68d49db7b0a126276b70a515c2e0a0f5f46fa87ef261addba37f01b9b4c22"), looks := false }, told := true, goes := false }
def LawS4067ABoundToldSaid : Prop := Claim7.holds Ybaf.pinned (.plain (OpenSpec.ofChange lawS4067ABoundSpec)) lawS4067ABoundCard
/-- ITS FALSE NEIGHBOUR. Refute it at one input. -/
def LawS4067ABoundToldWrongFalsely : Prop := Claim7.holds Ybaf.pinned (.plain (OpenSpec.ofChange lawS4067ABoundWrong)) lawS4067ABoundCard

/-- THE TOLD CARD OF 'ambit.LawS4067BModel'. -/
def lawS4067BModelCard : Claim7 := { stood := { row := lawS4067BModelRow, standIns := [], harness := (true, "f5d68d49db7b0a126276b70a515c2e0a0f5f46fa87ef261addba37f01b9b4c22"), looks := false }, told := true, goes := false }
def LawS4067BModelToldSaid : Prop := Claim7.holds Ybaf.pinned (.plain (OpenSpec.ofChange lawS4067BModelSpec)) lawS4067BModelCard
/-- ITS FALSE NEIGHBOUR. Refute it at one input. -/
def LawS4067BModelToldWrongFalsely : Prop := Claim7.holds Ybaf.pinned (.plain (OpenSpec.ofChange lawS4067BModelWrong)) lawS4067BModelCard

/-- THE TOLD CARD OF 'ambit.LawS4067BWellFormed'. -/
def lawS4067BWellFormedCard : Claim7 := { stood := { row := lawS4067BWellFormedRow, standIns := [], harness := (true, "f5d68d49db7b0a126276b70a515c2e0a0f5f46fa87ef261addba37f01b9b4c22"), looks := false }, told := true, goes := false }
def LawS4067BWellFormedToldSaid : Prop := Claim7.holds Ybaf.pinned (.plain (OpenSpec.ofChange lawS4067BWellFormedSpec)) lawS4067BWellFormedCard
/-- ITS FALSE NEIGHBOUR. Refute it at one input. -/
def LawS4067BWellFormedToldWrongFalsely : Prop := Claim7.holds Ybaf.pinned (.plain (OpenSpec.ofChange lawS4067BWellFormedWrong)) lawS4067BWellFormedCard
end Rows
end Go.Proofs.YbulkcfeyFmt
