/-
  LawS1244AExact: the walk and the statement.
-/
import Derived.Test.YbulkyswPlain
import Derived.Test.YbulkyswRows
import Derived.WalkKit
import Derived.ProofKit
import Derived.OpenShut
import Derived.ShutString
import Derived.ChangeOld
namespace Go.Proofs.Ybulkysw
open Go.ChangeShapes Go.WideShapes Go.ChangeAt Go.RowKit
open Go.ChangeMaps (open_string shut_string)
set_option linter.unusedVariables false

def cntPl (s : ByteArray) : Nat → Nat
  | 0 => 0
  | k + 1 => cntPl s k + if pl (byt s k) then 1 else 0
theorem cntPl_le (s : ByteArray) : ∀ k, cntPl s k ≤ k
  | 0 => Nat.le_refl _
  | k + 1 => by have := cntPl_le s k; unfold cntPl; split <;> omega
theorem cntPl_all (s : ByteArray) : ∀ k, allPl s k = decide (cntPl s k = k)
  | 0 => rfl
  | k + 1 => by
    have h1 := cntPl_all s k
    have h2 := cntPl_le s k
    unfold allPl cntPl
    rw [h1]
    by_cases h : pl (byt s k) = true
    · simp [h]
    · have hf : pl (byt s k) = false := by simpa using h
      simp [hf]
      omega

set_option maxHeartbeats 1000000 in
set_option maxRecDepth 100000 in
theorem exact_near (s : ByteArray) (w : World) (hs : s.size ≤ 4096) : Calls Yba.prog 3 #[.string s] w fun e w' => e = .returned (.bool true) ∧ Below w.heap.size w w' := by
  have h' : ¬ (4096 : Int) < s.size := by omega
  go_enter Yba.func3, Yba.ntmps3
  go_wp2
  go_loop [3, 4] (fun g i => ∃ k : Nat, i = .int .i64 k ∧ g = .int .i64 (cntPl s k) ∧ k ≤ s.size) (fun _ i => s.size - (intOf i).toNat)
  case atStart => exact ⟨0, rfl, rfl, Nat.zero_le _⟩
  case round =>
    obtain ⟨k, rfl, rfl, hk⟩ := hrel
    have hle := cntPl_le s k
    by_cases hlt : k < s.size
    · have hidx : (Instr.index 9 (.string s) (.int .i64 k)).run Yba.prog w = .ok (.int .u8 (byt s k)) w := by
        rw [run_index_string w 9 s .i64 k Yba.underlying9, dif_pos ⟨by omega, by omega⟩]
        congr 2
        have hi' : k < s.data.size := hlt
        unfold byt
        rw [Array.getElem?_eq_getElem hi']
        rfl
      have hpl := fun W => plain_any (byt s k) W
      have hcs : cntPl s (k + 1) = cntPl s k + if pl (byt s k) then 1 else 0 := rfl
      cases hp : pl (byt s k) with
      | true =>
        rw [hp] at hpl hcs
        have HCS : Hid (cntPl s (k + 1) = cntPl s k + 1) := hcs
        clear hcs
        go_wp2_with (go_at_call 5; refine (hpl _).mono ?_; rintro e w' ⟨rfl, rfl⟩)
        go_round
        case rel => exact ⟨k + 1, by go_num, by rw [HCS.out]; go_num, by omega⟩
        case measure => simp [intOf]; omega
      | false =>
        rw [hp] at hpl hcs
        have HCS : Hid (cntPl s (k + 1) = cntPl s k) := hcs
        clear hcs
        go_wp2_with (go_at_call 5; refine (hpl _).mono ?_; rintro e w' ⟨rfl, rfl⟩)
        go_round
        case rel => exact ⟨k + 1, by go_num, by rw [HCS.out], by omega⟩
        case measure => simp [intOf]; omega
    · obtain rfl : k = s.size := by omega
      have hip := isplain s w hs
      rw [cntPl_all] at hip
      have hdec : Hid ((decide (cntPl s s.size = s.size) == ((cntPl s s.size : Int) == (s.size : Int))) = true) := by
        show _ = _
        by_cases hh : cntPl s s.size = s.size
        · simp [hh]
        · have : ¬ (cntPl s s.size : Int) = s.size := by omega
          simp [hh, this]
      go_wp2_with (go_at_call 6; refine hip.mono ?_; rintro e w' ⟨rfl, hb⟩)
      all_goals
        go_ret
        first
          | exact ⟨rfl, hb⟩
          | exact ⟨congrArg (fun b => Ending.returned (Value.bool b)) hdec.out, hb⟩

theorem exact_far (s : ByteArray) (w : World) (hs : 4096 < s.size) : Calls Yba.prog 3 #[.string s] w fun e w' => e = .returned (.bool true) ∧ Below w.heap.size w w' := by
  have h' : (4096 : Int) < s.size := by omega
  go_enter Yba.func3, Yba.ntmps3
  go_wp2
  go_ret
  exact ⟨rfl, Below.refl _ _⟩

namespace Exact
theorem own : ownKnob Yba.prog.godebug = none := by kernel_rfl
set_option maxRecDepth 100000 in
theorem lifted (os : Os) (started : os.Started) (H : Type) (enc : TypeId × Value → H) :
    ReturnsInHanded {} Yba.checked os 3 .any (Rows.lawS1244AExactSpec.pre6 enc Yba.prog Yba.f3 Rows.lawS1244AExactRow.domain false) (Rows.lawS1244AExactSpec.post enc Yba.prog Yba.f3 false true false false) := by
  refine returnsInHanded_of_change (C := Yba.checked) own started (by kernel_rfl) Yba.func3
    (ChangeSpec.witness6 (enc := enc) (C := Yba.checked) false ⟨#[], #[.string ByteArray.empty], []⟩ 8 (by kernel_rfl) (by kernel_rfl) (by kernel_rfl) (by kernel_rfl)) ?_
  intro W base args ds gs before hval0 hW hcnd _
  have hval : ∀ (j : Nat) t v, Yba.f3.params[j]? = some t → args[j]? = some v → Value.okWide Yba.prog W .any base t v := hval0
  have hW' := hW
  obtain ⟨p, q, hA0, hV, rfl, hfz, hnd⟩ := hW
  have hA : DataW.TrodAll enc Yba.prog W 0 (fun _ => true) true Yba.f3.params.toList args.toList ds p := hA0
  rw [Yba.params3] at hA hval
  obtain ⟨v0, vs0, d0, ds0, p0, q0, hargs, rfl, rfl, h0, r0⟩ := trodAll_cons hA
  obtain ⟨rfl, rfl, rfl⟩ := trodAll_nil r0
  obtain rfl : args = #[v0] := by cases args; simp_all
  obtain ⟨rfl, rfl⟩ := trodVars_none hV
  obtain ⟨a0, rfl, rfl, rfl, w0⟩ := open_string Yba.underlying9 (hval 0 9 v0 rfl rfl) h0
  clear hA0 hval0
  have key : Calls Yba.prog 3 #[.string a0] W fun e w' => e = .returned (.bool true) ∧ Below W.heap.size W w' := by
    by_cases h : a0.size ≤ 4096
    · exact exact_near a0 W h
    · exact exact_far a0 W (by omega)
  refine key.mono fun e W' ⟨he, bel⟩ => ?_
  subst he
  exact ⟨_, rfl, _, _, _, [], _, [], hW', trodAll_mk1 (shut_bool Yba.underlying4 _), trodAll_mk1 (shut_string Yba.underlying9 w0), rfl, bel.frame _, fun h => by cases h⟩
end Exact

theorem exact_said : Rows.LawS1244AExactSaid :=
  OpenClaim.holds_of_wide 3 Yba.f3 rfl rfl rfl rfl rfl rfl rfl ⟨rfl, rfl, rfl, rfl, rfl⟩ rfl rfl rfl rfl rfl (by kernel_rfl) Yba.func3 (by kernel_rfl)
    (of_decide_eq_true (by kernel_rfl)) (by unfold Func.isWrapper; first | (rw [if_pos (by decide +kernel)]; kernel_rfl) | (rw [if_neg (by decide +kernel)]; exact ⟨rfl, rfl⟩))
    (fun os started H enc _ => Exact.lifted os started H enc)
#print axioms exact_said
end Go.Proofs.Ybulkysw
