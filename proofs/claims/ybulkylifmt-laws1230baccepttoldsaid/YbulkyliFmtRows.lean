/-
  No cell of these rows narrows 'for every input' (looked for: loops, veiled, ifaces, maps, wideKeys, modest, calm, conditions, laid).
  DERIVED. THE GIVEN ROWS OF THIS SEAT. 2 by the template 'for every input the law returns true; each argument reads behind the call as it read before'; 0 by the template 'total and deterministic' (their statements: YbulkyliFmtTotals.lean).
  GIVEN WITH THE SEED: the statements are not yours to turn. If you find one false, say at which input.
  Laid BY PROGRAM, IN A SANDBOX (cutbox-rows.mjs): the forced cells as the released guide's own fill.sh prints them over the translation b52118a8b3ffcd2e… (all of the seat's roots in one cut). By AI agents, Wed Nov 11 2026. No macro, syntax, notation, axiom, sorry.
-/
import Derived.Test.YbulkyliFmtChecked
import GoSem.Claim
import GoSem.ClaimJoined
import GoSem.ClaimMapViews
import Derived.JoinedTies
import Derived.KernelRfl
namespace Go.Proofs.YbulkyliFmt
/- THE CELL 'sum', in the pinned program and in every row, IS THE sha256 OF THE DUMP (.gsa) THAT YbulkyliFmtProg.lean LOADS. Nothing in Lean hashes anything: it is a label: what it is worth is what the hold of that sum in a sandbox is worth. -/
noncomputable def Ybaf.pinned : Pinned := { name := "ybulkylifmt", sum := "b52118a8b3ffcd2e83bf5c788629f68e0004503674bd9f80a567b084cdc3e711", checked := Ybaf.checked }
namespace Rows
def none {H : Type} : Left H := { results := [], args := [] }

/-- 'frame.LawS1230BAccept': WHATEVER THE INPUT: true; the input reads as it did. -/
def lawS1230BAcceptSpec : ChangeSpec := { name := "lawS1230BAccept", fn := fun _ => fun
  | [d] => { results := [.lit (.bool true)], args := [d] }
  | _ => none }
def lawS1230BAcceptRow : OpenClaim := { program := "ybulkylifmt", sum := "b52118a8b3ffcd2e83bf5c788629f68e0004503674bd9f80a567b084cdc3e711", func := "example.com/hushwire/hushwire/internal/frame.LawS1230BAccept", spec := "lawS1230BAccept", stops := ["fmt.errorf"], inPlace := ["fmt.errorf"], named := ["encoding/binary.BigEndian"], apart := false }
/-- NO THEOREM (fmt's text is open here; it may be false): for the released tool's asking of the row's closed facts alone. THE STATEMENT IS 'LawS1230BAcceptToldSaid' (YbulkyliFmtCards.lean). -/
def LawS1230BAcceptFormAsk : Prop := lawS1230BAcceptRow.holds Ybaf.pinned (OpenSpec.ofChange lawS1230BAcceptSpec)

/-- ITS FALSE NEIGHBOUR: 'it returns false'. Refute it at one input. -/
def lawS1230BAcceptWrong : ChangeSpec := { name := "lawS1230BAccept", fn := fun _ => fun
  | [d] => { results := [.lit (.bool false)], args := [d] }
  | _ => none }
def LawS1230BAcceptWrongFormAsk : Prop := lawS1230BAcceptRow.holds Ybaf.pinned (OpenSpec.ofChange lawS1230BAcceptWrong)

/-- 'frame.LawS1230BBuilt': WHATEVER THE INPUT: true; the input reads as it did. -/
def lawS1230BBuiltSpec : ChangeSpec := { name := "lawS1230BBuilt", fn := fun _ => fun
  | [d1, d2, d3, d4, d5] => { results := [.lit (.bool true)], args := [d1, d2, d3, d4, d5] }
  | _ => none }
def lawS1230BBuiltRow : OpenClaim := { program := "ybulkylifmt", sum := "b52118a8b3ffcd2e83bf5c788629f68e0004503674bd9f80a567b084cdc3e711", func := "example.com/hushwire/hushwire/internal/frame.LawS1230BBuilt", spec := "lawS1230BBuilt", stops := ["fmt.errorf"], inPlace := ["fmt.errorf"], named := ["encoding/binary.BigEndian"], apart := false }
/-- NO THEOREM (fmt's text is open here; it may be false): for the released tool's asking of the row's closed facts alone. THE STATEMENT IS 'LawS1230BBuiltToldSaid' (YbulkyliFmtCards.lean). -/
def LawS1230BBuiltFormAsk : Prop := lawS1230BBuiltRow.holds Ybaf.pinned (OpenSpec.ofChange lawS1230BBuiltSpec)

/-- ITS FALSE NEIGHBOUR: 'it returns false'. Refute it at one input. -/
def lawS1230BBuiltWrong : ChangeSpec := { name := "lawS1230BBuilt", fn := fun _ => fun
  | [d1, d2, d3, d4, d5] => { results := [.lit (.bool false)], args := [d1, d2, d3, d4, d5] }
  | _ => none }
def LawS1230BBuiltWrongFormAsk : Prop := lawS1230BBuiltRow.holds Ybaf.pinned (OpenSpec.ofChange lawS1230BBuiltWrong)

end Rows
end Go.Proofs.YbulkyliFmt
