/-
  No cell of these rows narrows 'for every input' (looked for: loops, veiled, ifaces, maps, wideKeys, modest, calm, conditions, laid).
  DERIVED. THE GIVEN ROWS OF THIS SEAT. 3 by the template 'for every input the law returns true; each argument reads behind the call as it read before'; 0 by the template 'total and deterministic' (their statements: YbulkymyTotals.lean).
  GIVEN WITH THE SEED: the statements are not yours to turn. If you find one false, say at which input.
  Laid BY PROGRAM, IN A SANDBOX (cutbox-rows.mjs): the forced cells as the released guide's own fill.sh prints them over the translation 51a3940b8ddd7118… (all of the seat's roots in one cut). By AI agents, Wed Nov 11 2026. No macro, syntax, notation, axiom, sorry.
-/
import Derived.Test.YbulkymyChecked
import GoSem.Claim
import GoSem.ClaimJoined
import GoSem.ClaimMapViews
import Derived.JoinedTies
import Derived.KernelRfl
namespace Go.Proofs.Ybulkymy
/- THE CELL 'sum', in the pinned program and in every row, IS THE sha256 OF THE DUMP (.gsa) THAT YbulkymyProg.lean LOADS. Nothing in Lean hashes anything: it is a label: what it is worth is what the hold of that sum in a sandbox is worth. -/
noncomputable def Yba.pinned : Pinned := { name := "ybulkymy", sum := "51a3940b8ddd7118793a952d09cd093c6b96905c854003dffe7a81eca172915e", checked := Yba.checked }
namespace Rows
def none {H : Type} : Left H := { results := [], args := [] }

/-- 'vv.LawS1233AEntrywise': WHATEVER THE INPUT: true; the input reads as it did. -/
def lawS1233AEntrywiseSpec : ChangeSpec := { name := "lawS1233AEntrywise", fn := fun _ => fun
  | [d] => { results := [.lit (.bool true)], args := [d] }
  | _ => none }
def lawS1233AEntrywiseRow : OpenClaim := { program := "ybulkymy", sum := "51a3940b8ddd7118793a952d09cd093c6b96905c854003dffe7a81eca172915e", func := "example.com/coheron/coheron/pkg/vv.LawS1233AEntrywise", spec := "lawS1233AEntrywise", apart := false }
def LawS1233AEntrywiseSaid : Prop := lawS1233AEntrywiseRow.holds Yba.pinned (OpenSpec.ofChange lawS1233AEntrywiseSpec)

/-- ITS FALSE NEIGHBOUR: 'it returns false'. Refute it at one input. -/
def lawS1233AEntrywiseWrong : ChangeSpec := { name := "lawS1233AEntrywise", fn := fun _ => fun
  | [d] => { results := [.lit (.bool false)], args := [d] }
  | _ => none }
def LawS1233AEntrywiseWrongFalsely : Prop := lawS1233AEntrywiseRow.holds Yba.pinned (OpenSpec.ofChange lawS1233AEntrywiseWrong)

/-- 'vv.LawS1233AAssoc': WHATEVER THE INPUT: true; the input reads as it did. -/
def lawS1233AAssocSpec : ChangeSpec := { name := "lawS1233AAssoc", fn := fun _ => fun
  | [d1, d2, d3] => { results := [.lit (.bool true)], args := [d1, d2, d3] }
  | _ => none }
def lawS1233AAssocRow : OpenClaim := { program := "ybulkymy", sum := "51a3940b8ddd7118793a952d09cd093c6b96905c854003dffe7a81eca172915e", func := "example.com/coheron/coheron/pkg/vv.LawS1233AAssoc", spec := "lawS1233AAssoc", apart := false }
def LawS1233AAssocSaid : Prop := lawS1233AAssocRow.holds Yba.pinned (OpenSpec.ofChange lawS1233AAssocSpec)

/-- ITS FALSE NEIGHBOUR: 'it returns false'. Refute it at one input. -/
def lawS1233AAssocWrong : ChangeSpec := { name := "lawS1233AAssoc", fn := fun _ => fun
  | [d1, d2, d3] => { results := [.lit (.bool false)], args := [d1, d2, d3] }
  | _ => none }
def LawS1233AAssocWrongFalsely : Prop := lawS1233AAssocRow.holds Yba.pinned (OpenSpec.ofChange lawS1233AAssocWrong)

/-- 'replica.LawS1233CModel': WHATEVER THE INPUT: true; the input reads as it did. -/
def lawS1233CModelSpec : ChangeSpec := { name := "lawS1233CModel", fn := fun _ => fun
  | [d1, d2, d3] => { results := [.lit (.bool true)], args := [d1, d2, d3] }
  | _ => none }
def lawS1233CModelRow : OpenClaim := { program := "ybulkymy", sum := "51a3940b8ddd7118793a952d09cd093c6b96905c854003dffe7a81eca172915e", func := "example.com/coheron/coheron/pkg/replica.LawS1233CModel", spec := "lawS1233CModel", unfollowed := true, recurses := true, apart := false }
def LawS1233CModelSaid : Prop := lawS1233CModelRow.holds Yba.pinned (OpenSpec.ofChange lawS1233CModelSpec)

/-- ITS FALSE NEIGHBOUR: 'it returns false'. Refute it at one input. -/
def lawS1233CModelWrong : ChangeSpec := { name := "lawS1233CModel", fn := fun _ => fun
  | [d1, d2, d3] => { results := [.lit (.bool false)], args := [d1, d2, d3] }
  | _ => none }
def LawS1233CModelWrongFalsely : Prop := lawS1233CModelRow.holds Yba.pinned (OpenSpec.ofChange lawS1233CModelWrong)

end Rows
end Go.Proofs.Ybulkymy
