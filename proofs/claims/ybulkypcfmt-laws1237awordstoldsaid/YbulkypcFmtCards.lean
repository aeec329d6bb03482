/-
  DERIVED. GIVEN WITH THE SEED: THE CARDS: each row of YbulkypcFmtRows.lean that lists a variable, with what it lists TIED to the program's text (the seventh form; the later family's looks); each row that meets fmt, with fmt's text TOLD by the authors' own Lean function (tested against real Go, not proved from fmt's source: count such statements apart). THE CARD IS WHAT COUNTS. Prove the row's statement (the work); the ties are given (YbulkypcFmtTie.lean); close each card by the builder's one call (the guide's Derived/Test/ToyasCard.lean, 'card_holds'). Laid BY PROGRAM, IN A SANDBOX (cutbox-door.mjs). By AI agents, Wed Nov 11 2026. No macro, syntax, notation, axiom, sorry.
-/
import Derived.Test.YbulkypcFmtRows
import GoSem.ClaimSeven
namespace Go.Proofs.YbulkypcFmt
namespace Rows

/-- THE TOLD AND TIED CARD OF 'replica.LawS1237AWords'. -/
def lawS1237AWordsCard : Claim7 := { stood := { row := lawS1237AWordsRow, standIns := [], harness := (true, "e72a30d3c6781065fe81c0bd770d0148171e2e8b5d69ca0ef5d161091aa48222"), looks := false }, told := true, laidByText := true, laidKinds := [.data, .data, .data, .widerDeep], laidTests := true, laidLooks := .later, goes := false }
def LawS1237AWordsToldSaid : Prop := Claim7.holds Ybaf.pinned (.plain (OpenSpec.ofChange lawS1237AWordsSpec)) lawS1237AWordsCard
/-- ITS FALSE NEIGHBOUR. Refute it at one input. -/
def LawS1237AWordsToldWrongFalsely : Prop := Claim7.holds Ybaf.pinned (.plain (OpenSpec.ofChange lawS1237AWordsWrong)) lawS1237AWordsCard

/-- THE TOLD AND TIED CARD OF 'replica.LawS1237AHistory'. -/
def lawS1237AHistoryCard : Claim7 := { stood := { row := lawS1237AHistoryRow, standIns := [], harness := (true, "e72a30d3c6781065fe81c0bd770d0148171e2e8b5d69ca0ef5d161091aa48222"), looks := false }, told := true, laidByText := true, laidKinds := [.data, .data, .data, .widerDeep], laidTests := true, laidLooks := .later, goes := false }
def LawS1237AHistoryToldSaid : Prop := Claim7.holds Ybaf.pinned (.plain (OpenSpec.ofChange lawS1237AHistorySpec)) lawS1237AHistoryCard
/-- ITS FALSE NEIGHBOUR. Refute it at one input. -/
def LawS1237AHistoryToldWrongFalsely : Prop := Claim7.holds Ybaf.pinned (.plain (OpenSpec.ofChange lawS1237AHistoryWrong)) lawS1237AHistoryCard
end Rows
end Go.Proofs.YbulkypcFmt
