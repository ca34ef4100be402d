/-
  DERIVED. GIVEN WITH THE SEED: THE CARDS: each row of YbulkcxmyFmtRows.lean that lists a variable, with what it lists TIED to the program's text (the seventh form; the later family's looks); each row that meets fmt, with fmt's text TOLD by the authors' own Lean function (tested against real Go, not proved from fmt's source: count such statements apart). THE CARD IS WHAT COUNTS. Prove the row's statement (the work); the ties are given (YbulkcxmyFmtTie.lean); close each card by the builder's one call (the guide's Derived/Test/ToyasCard.lean, 'card_holds'). Laid BY PROGRAM, IN A SANDBOX (cutbox-door.mjs). By AI agents, Wed Nov 11 2026. No macro, syntax, notation, axiom, sorry.
-/
import Derived.Test.YbulkcxmyFmtRows
import GoSem.ClaimSeven
namespace Go.Proofs.YbulkcxmyFmt
namespace Rows

/-- THE TOLD CARD OF 'usher.LawS4951ASlot'. -/
def lawS4951ASlotCard : Claim7 := { stood := { row := lawS4951ASlotRow, standIns := [], harness := (true, "00254e3a4d688896291593047876ba688a84c4c1911b119502575d6c15cf6466"), looks := true }, told := true, goes := false }
def LawS4951ASlotToldSaid : Prop := Claim7.holds Ybaf.pinned (.plain (OpenSpec.ofChange lawS4951ASlotSpec)) lawS4951ASlotCard
/-- ITS FALSE NEIGHBOUR. Refute it at one input. -/
def LawS4951ASlotToldWrongFalsely : Prop := Claim7.holds Ybaf.pinned (.plain (OpenSpec.ofChange lawS4951ASlotWrong)) lawS4951ASlotCard

/-- THE TOLD CARD OF 'usher.LawS4951AWake'. -/
def lawS4951AWakeCard : Claim7 := { stood := { row := lawS4951AWakeRow, standIns := [], harness := (true, "00254e3a4d688896291593047876ba688a84c4c1911b119502575d6c15cf6466"), looks := true }, told := true, goes := false }
def LawS4951AWakeToldSaid : Prop := Claim7.holds Ybaf.pinned (.plain (OpenSpec.ofChange lawS4951AWakeSpec)) lawS4951AWakeCard
/-- ITS FALSE NEIGHBOUR. Refute it at one input. -/
def LawS4951AWakeToldWrongFalsely : Prop := Claim7.holds Ybaf.pinned (.plain (OpenSpec.ofChange lawS4951AWakeWrong)) lawS4951AWakeCard

/-- THE TOLD CARD OF 'usher.LawS4951BWake'. -/
def lawS4951BWakeCard : Claim7 := { stood := { row := lawS4951BWakeRow, standIns := [], harness := (true, "00254e3a4d688896291593047876ba688a84c4c1911b119502575d6c15cf6466"), looks := true }, told := true, goes := false }
def LawS4951BWakeToldSaid : Prop := Claim7.holds Ybaf.pinned (.plain (OpenSpec.ofChange lawS4951BWakeSpec)) lawS4951BWakeCard
/-- ITS FALSE NEIGHBOUR. Refute it at one input. -/
def LawS4951BWakeToldWrongFalsely : Prop := Claim7.holds Ybaf.pinned (.plain (OpenSpec.ofChange lawS4951BWakeWrong)) lawS4951BWakeCard
end Rows
end Go.Proofs.YbulkcxmyFmt
