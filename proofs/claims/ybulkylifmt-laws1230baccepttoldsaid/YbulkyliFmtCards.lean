/-
  DERIVED. GIVEN WITH THE SEED: THE CARDS: each row of YbulkyliFmtRows.lean that lists a variable, with what it lists TIED to the program's text (the seventh form; the later family's looks); each row that meets fmt, with fmt's text TOLD by the authors' own Lean function (tested against real Go, not proved from fmt's source: count such statements apart). THE CARD IS WHAT COUNTS. Prove the row's statement (the work); the ties are given (YbulkyliFmtTie.lean); close each card by the builder's one call (the guide's Derived/Test/ToyasCard.lean, 'card_holds'). Laid BY PROGRAM, IN A SANDBOX (cutbox-door.mjs). By AI agents, Wed Nov 11 2026. No macro, syntax, notation, axiom, sorry.
-/
import Derived.Test.YbulkyliFmtRows
import GoSem.ClaimSeven
namespace Go.Proofs.YbulkyliFmt
namespace Rows

/-- THE TOLD CARD OF 'frame.LawS1230BAccept'. -/
def lawS1230BAcceptCard : Claim7 := { stood := { row := lawS1230BAcceptRow, standIns := [], harness := (true, "2ee9ca406a454a2ab06ffbe531aae370a3cdcc3d4b88adfa528908adc2e3b4da"), looks := false }, told := true, goes := false }
def LawS1230BAcceptToldSaid : Prop := Claim7.holds Ybaf.pinned (.plain (OpenSpec.ofChange lawS1230BAcceptSpec)) lawS1230BAcceptCard
/-- ITS FALSE NEIGHBOUR. Refute it at one input. -/
def LawS1230BAcceptToldWrongFalsely : Prop := Claim7.holds Ybaf.pinned (.plain (OpenSpec.ofChange lawS1230BAcceptWrong)) lawS1230BAcceptCard

/-- THE TOLD CARD OF 'frame.LawS1230BBuilt'. -/
def lawS1230BBuiltCard : Claim7 := { stood := { row := lawS1230BBuiltRow, standIns := [], harness := (true, "2ee9ca406a454a2ab06ffbe531aae370a3cdcc3d4b88adfa528908adc2e3b4da"), looks := false }, told := true, goes := false }
def LawS1230BBuiltToldSaid : Prop := Claim7.holds Ybaf.pinned (.plain (OpenSpec.ofChange lawS1230BBuiltSpec)) lawS1230BBuiltCard
/-- ITS FALSE NEIGHBOUR. Refute it at one input. -/
def LawS1230BBuiltToldWrongFalsely : Prop := Claim7.holds Ybaf.pinned (.plain (OpenSpec.ofChange lawS1230BBuiltWrong)) lawS1230BBuiltCard
end Rows
end Go.Proofs.YbulkyliFmt
