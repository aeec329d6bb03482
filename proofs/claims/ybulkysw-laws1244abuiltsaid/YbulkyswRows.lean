/-
  No cell of these rows narrows 'for every input' (looked for: loops, veiled, ifaces, maps, wideKeys, modest, calm, conditions, laid).
  DERIVED. THE GIVEN ROWS OF THIS SEAT. 2 by the template 'for every input the law returns true; each argument reads behind the call as it read before'; 0 by the template 'total and deterministic' (their statements: YbulkyswTotals.lean).
  GIVEN WITH THE SEED: the statements are not yours to turn. If you find one false, say at which input.
  Laid BY PROGRAM, IN A SANDBOX (cutbox-rows.mjs): the forced cells as the released guide's own fill.sh prints them over the translation 36e43f50ef9682ba… (all of the seat's roots in one cut). By AI agents, Wed Nov 11 2026. No macro, syntax, notation, axiom, sorry.
-/
import Derived.Test.YbulkyswChecked
import GoSem.Claim
import GoSem.ClaimJoined
import GoSem.ClaimMapViews
import Derived.JoinedTies
import Derived.KernelRfl
namespace Go.Proofs.Ybulkysw
/- THE CELL 'sum', in the pinned program and in every row, IS THE sha256 OF THE DUMP (.gsa) THAT YbulkyswProg.lean LOADS. Nothing in Lean hashes anything: it is a label: what it is worth is what the hold of that sum in a sandbox is worth. -/
noncomputable def Yba.pinned : Pinned := { name := "ybulkysw", sum := "36e43f50ef9682ba5a9e8e0598b1e7ce56360f3d04f7f49ddf458c3da1705202", checked := Yba.checked }
namespace Rows
def none {H : Type} : Left H := { results := [], args := [] }

/-- 'wire.LawS1244AExact': WHATEVER THE INPUT: true; the input reads as it did. -/
def lawS1244AExactSpec : ChangeSpec := { name := "lawS1244AExact", fn := fun _ => fun
  | [d] => { results := [.lit (.bool true)], args := [d] }
  | _ => none }
def lawS1244AExactRow : OpenClaim := { program := "ybulkysw", sum := "36e43f50ef9682ba5a9e8e0598b1e7ce56360f3d04f7f49ddf458c3da1705202", func := "example.com/histconv/histconv/internal/wire.LawS1244AExact", spec := "lawS1244AExact", apart := false }
def LawS1244AExactSaid : Prop := lawS1244AExactRow.holds Yba.pinned (OpenSpec.ofChange lawS1244AExactSpec)

/-- ITS FALSE NEIGHBOUR: 'it returns false'. Refute it at one input. -/
def lawS1244AExactWrong : ChangeSpec := { name := "lawS1244AExact", fn := fun _ => fun
  | [d] => { results := [.lit (.bool false)], args := [d] }
  | _ => none }
def LawS1244AExactWrongFalsely : Prop := lawS1244AExactRow.holds Yba.pinned (OpenSpec.ofChange lawS1244AExactWrong)

/-- 'wire.LawS1244ABuilt': WHATEVER THE INPUT: true; the input reads as it did. -/
def lawS1244ABuiltSpec : ChangeSpec := { name := "lawS1244ABuilt", fn := fun _ => fun
  | [d1, d2, d3, d4] => { results := [.lit (.bool true)], args := [d1, d2, d3, d4] }
  | _ => none }
def lawS1244ABuiltRow : OpenClaim := { program := "ybulkysw", sum := "36e43f50ef9682ba5a9e8e0598b1e7ce56360f3d04f7f49ddf458c3da1705202", func := "example.com/histconv/histconv/internal/wire.LawS1244ABuilt", spec := "lawS1244ABuilt", apart := false }
def LawS1244ABuiltSaid : Prop := lawS1244ABuiltRow.holds Yba.pinned (OpenSpec.ofChange lawS1244ABuiltSpec)

/-- ITS FALSE NEIGHBOUR: 'it returns false'. Refute it at one input. -/
def lawS1244ABuiltWrong : ChangeSpec := { name := "lawS1244ABuilt", fn := fun _ => fun
  | [d1, d2, d3, d4] => { results := [.lit (.bool false)], args := [d1, d2, d3, d4] }
  | _ => none }
def LawS1244ABuiltWrongFalsely : Prop := lawS1244ABuiltRow.holds Yba.pinned (OpenSpec.ofChange lawS1244ABuiltWrong)

end Rows
end Go.Proofs.Ybulkysw
