/-
  LawS1237AWords: fmt.Sprintf's closed facts at this program; (Op).String; (Vector).String; (Op).WritesValue; zzs1237aname.
-/
import Derived.Test.YbulkypcFmtProg
import Derived.WalkKit
import Derived.Below
import Derived.Deep.Draws
import Derived.Stop.CallBack
import Derived.Stop.IfaceNil
import GoSem.ClaimData
namespace Go.Proofs.YbulkypcFmt
open Go.RowKit Go.Extern.Stop Go.Stop Go.Extern

theorem call17 (args : Array Value) (w : World) : (callFunc 17 args).run Ybaf.prog w = ((FmtStop.sprintf #[9, 85] #[9] args).run Ybaf.prog w).andThen fun v w' => .ok (.value v) w' :=
  run_callFunc_extern Ybaf.func17 (by kernel_rfl) (by kernel_rfl) (by kernel_rfl) (by kernel_rfl) args w
theorem fguard (name : String) (w : World) : (FmtStop.guard name).run Ybaf.prog w = .ok () w := by kernel_rfl
def shape5 : List UInt8 := [6, 5, 0, 0, 0, 0, 0, 0, 0, 117, 105, 110, 116, 56]
theorem op5 (name : String) (x : Int) (w : World) : (FmtStop.operand name false 100 false (.iface 5 (.int .u8 x))).run Ybaf.prog w = .ok (shape5, Go.Extern.Stop.digits 8 (x % 2 ^ 64).toNat) w := by kernel_rfl
theorem op5t (name : String) (x : Int) (w : World) : (FmtStop.operand name true 100 false (.iface 5 (.int .u8 x))).run Ybaf.prog w = .ok (shape5, Go.Extern.Stop.digits 8 (x % 2 ^ 64).toNat) w := by kernel_rfl
theorem fmt0 : FmtStop.printed? ⟨#[79, 112, 40, 37, 100, 41]⟩ 1 = some [(0, 100, false)] := by kernel_rfl
theorem fmt0r (w : World) : (FmtDoors.printed ⟨#[79, 112, 40, 37, 100, 41]⟩ 1).run Ybaf.prog w = .ok [(0, 100, false)] w := by kernel_rfl
attribute [local go_sem] call17 fguard op5 op5t fmt0 fmt0r

/-- the names of the operations -/
def nmL : Nat → List UInt8
  | 1 => [103, 101, 116]
  | 2 => [112, 117, 116]
  | 3 => [97, 112, 112, 101, 110, 100]
  | 4 => [100, 101, 108, 101, 116, 101]
  | _ => []
def nmB (i : Nat) : ByteArray := ⟨(nmL i).toArray⟩

/-- the world holds opNames as it was laid, and answers for fmt by F -/
def Good (F : Interp) (w : World) : Prop := F.answers w.tape ∧ 0 < w.heap.size ∧ ∀ i, i < 5 → w.cell? ⟨0, i, none⟩ = some (.string (nmB i))
theorem Good.later {F : Interp} {w W : World} {B : Nat} (h : Good F w) (hB : 0 < B) (hb : Below B w W) : Good F W := by
  refine ⟨?_, by have := hb.size; have := h.2.1; omega, fun i hi => (hb.cell (p := ⟨0, i, none⟩) hB).trans (h.2.2 i hi)⟩
  have := h.1
  rw [← hb.tape] at this
  exact this

set_option maxRecDepth 100000 in
theorem opstr_far (F : Interp) (x : Int) (w : World) (h0 : 5 ≤ x) (h1 : x ≤ 255) (hG : Good F w) :
    Calls Ybaf.prog 11 #[.int .u8 x] w fun e w' => ∃ s, e = .returned (.string s) ∧ Below w.heap.size w w' := by
  have hF : F.answers w.tape := hG.1
  have hF' : ∀ i name reading k range, w.tape i (.extern (word name reading k) range) = F name reading k := hF
  have hx : ¬ x < 5 := by omega
  clear hG
  go_enter Ybaf.func11, Ybaf.ntmps11
  go_wp2
  go_ret
  exact ⟨⟨_, rfl⟩, ((Below.refl _ _).alloc (Nat.le_refl _) _).drew⟩

set_option maxRecDepth 100000 in
theorem opstr_zero (F : Interp) (w : World) (hG : Good F w) :
    Calls Ybaf.prog 11 #[.int .u8 0] w fun e w' => ∃ s, e = .returned (.string s) ∧ Below w.heap.size w w' := by
  have hF : F.answers w.tape := hG.1
  have hF' : ∀ i name reading k range, w.tape i (.extern (word name reading k) range) = F name reading k := hF
  have c0 : w.cell? ⟨0, 0, none⟩ = some (.string ⟨#[]⟩) := hG.2.2 0 (by decide)
  clear hG
  go_enter Ybaf.func11, Ybaf.ntmps11
  go_wp2
  go_ret
  exact ⟨_, rfl, ((Below.refl _ _).alloc (Nat.le_refl _) _).drew⟩
set_option maxRecDepth 100000 in
theorem opstr_one (F : Interp) (w : World) (hG : Good F w) :
    Calls Ybaf.prog 11 #[.int .u8 1] w fun e w' => e = .returned (.string (nmB 1)) ∧ Below w.heap.size w w' := by
  have c0 : w.cell? ⟨0, 1, none⟩ = some (.string ⟨#[103, 101, 116]⟩) := hG.2.2 1 (by decide)
  clear hG
  go_enter Ybaf.func11, Ybaf.ntmps11
  go_wp2
  go_ret
  exact ⟨rfl, Below.refl _ _⟩
set_option maxRecDepth 100000 in
theorem opstr_two (F : Interp) (w : World) (hG : Good F w) :
    Calls Ybaf.prog 11 #[.int .u8 2] w fun e w' => e = .returned (.string (nmB 2)) ∧ Below w.heap.size w w' := by
  have c0 : w.cell? ⟨0, 2, none⟩ = some (.string ⟨#[112, 117, 116]⟩) := hG.2.2 2 (by decide)
  clear hG
  go_enter Ybaf.func11, Ybaf.ntmps11
  go_wp2
  go_ret
  exact ⟨rfl, Below.refl _ _⟩
set_option maxRecDepth 100000 in
theorem opstr_three (F : Interp) (w : World) (hG : Good F w) :
    Calls Ybaf.prog 11 #[.int .u8 3] w fun e w' => e = .returned (.string (nmB 3)) ∧ Below w.heap.size w w' := by
  have c0 : w.cell? ⟨0, 3, none⟩ = some (.string ⟨#[97, 112, 112, 101, 110, 100]⟩) := hG.2.2 3 (by decide)
  clear hG
  go_enter Ybaf.func11, Ybaf.ntmps11
  go_wp2
  go_ret
  exact ⟨rfl, Below.refl _ _⟩
set_option maxRecDepth 100000 in
theorem opstr_four (F : Interp) (w : World) (hG : Good F w) :
    Calls Ybaf.prog 11 #[.int .u8 4] w fun e w' => e = .returned (.string (nmB 4)) ∧ Below w.heap.size w w' := by
  have c0 : w.cell? ⟨0, 4, none⟩ = some (.string ⟨#[100, 101, 108, 101, 116, 101]⟩) := hG.2.2 4 (by decide)
  clear hG
  go_enter Ybaf.func11, Ybaf.ntmps11
  go_wp2
  go_ret
  exact ⟨rfl, Below.refl _ _⟩

/-- WHATEVER THE OPERATION: a string; the operation's name where it has one. -/
theorem opstr (F : Interp) (x : Int) (w : World) (h0 : 0 ≤ x) (h1 : x ≤ 255) (hG : Good F w) :
    Calls Ybaf.prog 11 #[.int .u8 x] w fun e w' => ∃ s, e = .returned (.string s) ∧ (1 ≤ x → x ≤ 4 → s = nmB x.toNat) ∧ Below w.heap.size w w' := by
  rcases (show x = 0 ∨ x = 1 ∨ x = 2 ∨ x = 3 ∨ x = 4 ∨ 5 ≤ x from by omega) with rfl | rfl | rfl | rfl | rfl | h
  · exact (opstr_zero F w hG).mono fun e w' ⟨s, a, b⟩ => ⟨s, a, fun h => by omega, b⟩
  · exact (opstr_one F w hG).mono fun e w' ⟨a, b⟩ => ⟨_, a, fun _ _ => rfl, b⟩
  · exact (opstr_two F w hG).mono fun e w' ⟨a, b⟩ => ⟨_, a, fun _ _ => rfl, b⟩
  · exact (opstr_three F w hG).mono fun e w' ⟨a, b⟩ => ⟨_, a, fun _ _ => rfl, b⟩
  · exact (opstr_four F w hG).mono fun e w' ⟨a, b⟩ => ⟨_, a, fun _ _ => rfl, b⟩
  · exact (opstr_far F x w h h1 hG).mono fun e w' ⟨s, a, b⟩ => ⟨s, a, fun _ h => by omega, b⟩

/-- the stamp is empty: "-" -/
theorem vecstr (w : World) : Calls Ybaf.prog 10 #[.agg #[.slice none 0 0]] w fun e w' => e = .returned (.string ⟨#[45]⟩) ∧ Below w.heap.size w w' := by
  go_enter Ybaf.func10, Ybaf.ntmps10
  go_wp2
  go_ret
  exact ⟨rfl, (Below.refl _ _).alloc (Nat.le_refl _) _⟩
theorem wval (x : Int) (w : World) : Calls Ybaf.prog 12 #[.int .u8 x] w fun e w' => e = .returned (.bool (decide (x = 2 ∨ x = 3))) ∧ w' = w := by
  by_cases h2 : x = 2
  · subst h2
    go_enter Ybaf.func12, Ybaf.ntmps12
    go_wp2
    go_ret
    exact ⟨rfl, rfl⟩
  · by_cases h3 : x = 3
    · subst h3
      go_enter Ybaf.func12, Ybaf.ntmps12
      go_wp2
      go_ret
      exact ⟨rfl, rfl⟩
    · have e : decide (x = 2 ∨ x = 3) = false := by simp [h2, h3]
      rw [e]
      go_enter Ybaf.func12, Ybaf.ntmps12
      go_wp2
      go_ret
      exact ⟨by simp [h2, h3], rfl⟩
theorem name_any (x : Int) (w : World) : Calls Ybaf.prog 7 #[.int .u8 x] w fun e w' => e = .returned (.tuple #[.string (if 1 ≤ x ∧ x ≤ 4 then nmB x.toNat else ⟨#[]⟩), .bool (decide (1 ≤ x ∧ x ≤ 4))]) ∧ w' = w := by
  rcases (show x = 1 ∨ x = 2 ∨ x = 3 ∨ x = 4 ∨ (¬ x = 1 ∧ ¬ x = 2 ∧ ¬ x = 3 ∧ ¬ x = 4) from by omega) with rfl | rfl | rfl | rfl | ⟨g1, g2, g3, g4⟩
  · go_enter Ybaf.func7, Ybaf.ntmps7
    go_wp2
    go_ret2
    exact ⟨rfl, rfl⟩
  · go_enter Ybaf.func7, Ybaf.ntmps7
    go_wp2
    go_ret2
    exact ⟨rfl, rfl⟩
  · go_enter Ybaf.func7, Ybaf.ntmps7
    go_wp2
    go_ret2
    exact ⟨rfl, rfl⟩
  · go_enter Ybaf.func7, Ybaf.ntmps7
    go_wp2
    go_ret2
    exact ⟨rfl, rfl⟩
  · have hn : ¬ (1 ≤ x ∧ x ≤ 4) := by omega
    rw [if_neg hn, decide_eq_false hn]
    go_enter Ybaf.func7, Ybaf.ntmps7
    go_wp2
    go_ret2
    exact ⟨rfl, rfl⟩
end Go.Proofs.YbulkypcFmt
