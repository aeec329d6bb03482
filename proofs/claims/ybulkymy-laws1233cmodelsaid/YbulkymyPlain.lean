/-
  The plain part: four names, maps from them to counts and to bools, as read.
-/
import Derived.Test.YbulkymyRows
import Derived.WalkKit
import Derived.WalkSpells
import Derived.WalkLawsBesides
import Derived.Maps.OwnSet
import Derived.Maps.RangeWalk
namespace Go.Proofs.Ybulkymy
open Go.RowKit Go.Maps

def nm : Nat → List UInt8
  | 0 => [97]
  | 1 => [98]
  | 2 => [99]
  | _ => [100, 46, 120]
def nmB (j : Nat) : ByteArray := ⟨(nm j).toArray⟩
def key (j : Nat) : Lit := .string (nm j)

def ent (j : Nat) : Option Int → List (Lit × DataW Unit)
  | some c => [(key j, .lit (.int .u64 c))]
  | none => []
/-- A map from the four names to counts, as it reads. -/
def dat (f : Nat → Option Int) : DataW Unit := .map (ent 0 (f 0) ++ (ent 1 (f 1) ++ (ent 2 (f 2) ++ ent 3 (f 3))))
def entB (j : Nat) : Bool → List (Lit × DataW Unit)
  | true => [(key j, .lit (.bool true))]
  | false => []
/-- A set of names: a map to true. -/
def datB (g : Nat → Bool) : DataW Unit := .map (entB 0 (g 0) ++ (entB 1 (g 1) ++ (entB 2 (g 2) ++ entB 3 (g 3))))

def upd (f : Nat → Option Int) (j : Nat) (c : Int) : Nat → Option Int := fun i => if i = j then some c else f i
def updB (g : Nat → Bool) (j : Nat) : Nat → Bool := fun i => if i = j then true else g i

theorem put_dat (f : Nat → Option Int) (j : Nat) (hj : j < 4) (c : Int) : (dat f).put (key j) (.lit (.int .u64 c)) = dat (upd f j c) := by
  match j, hj with
  | 0, _ => unfold dat upd; cases f 0 <;> cases f 1 <;> cases f 2 <;> cases f 3 <;> rfl
  | 1, _ => unfold dat upd; cases f 0 <;> cases f 1 <;> cases f 2 <;> cases f 3 <;> rfl
  | 2, _ => unfold dat upd; cases f 0 <;> cases f 1 <;> cases f 2 <;> cases f 3 <;> rfl
  | 3, _ => unfold dat upd; cases f 0 <;> cases f 1 <;> cases f 2 <;> cases f 3 <;> rfl
theorem at_dat (f : Nat → Option Int) (j : Nat) (hj : j < 4) (z : DataW Unit) : (dat f).atKey (key j) z = match f j with | some c => .lit (.int .u64 c) | none => z := by
  match j, hj with
  | 0, _ => unfold dat; cases f 0 <;> cases f 1 <;> cases f 2 <;> cases f 3 <;> rfl
  | 1, _ => unfold dat; cases f 0 <;> cases f 1 <;> cases f 2 <;> cases f 3 <;> rfl
  | 2, _ => unfold dat; cases f 0 <;> cases f 1 <;> cases f 2 <;> cases f 3 <;> rfl
  | 3, _ => unfold dat; cases f 0 <;> cases f 1 <;> cases f 2 <;> cases f 3 <;> rfl
theorem has_dat (f : Nat → Option Int) (j : Nat) (hj : j < 4) : Maps.has (dat f) (key j) = (f j).isSome := by
  match j, hj with
  | 0, _ => unfold dat; cases f 0 <;> cases f 1 <;> cases f 2 <;> cases f 3 <;> rfl
  | 1, _ => unfold dat; cases f 0 <;> cases f 1 <;> cases f 2 <;> cases f 3 <;> rfl
  | 2, _ => unfold dat; cases f 0 <;> cases f 1 <;> cases f 2 <;> cases f 3 <;> rfl
  | 3, _ => unfold dat; cases f 0 <;> cases f 1 <;> cases f 2 <;> cases f 3 <;> rfl
/-- Every key of such a map is one of the four. -/
theorem key_dat (f : Nat → Option Int) (kl : Lit) (h : Maps.has (dat f) kl = true) : ∃ j, j < 4 ∧ kl = key j ∧ (f j).isSome = true := by
  unfold dat Maps.has at h
  simp only [List.any_append, Bool.or_eq_true] at h
  have one : ∀ j, (ent j (f j)).any (fun p => p.1.sameKey kl) = true → kl = key j ∧ (f j).isSome = true := by
    intro j hj
    cases hf : f j with
    | none => rw [hf] at hj; simp [ent] at hj
    | some c =>
      rw [hf] at hj
      simp [ent] at hj
      exact ⟨(WideAt.sameKey_eq hj).symm, rfl⟩
  rcases h with h | h | h | h
  · exact ⟨0, by decide, (one 0 h).1, (one 0 h).2⟩
  · exact ⟨1, by decide, (one 1 h).1, (one 1 h).2⟩
  · exact ⟨2, by decide, (one 2 h).1, (one 2 h).2⟩
  · exact ⟨3, by decide, (one 3 h).1, (one 3 h).2⟩
theorem key_inj {i j : Nat} (hi : i < 4) (hj : j < 4) (h : key i = key j) : i = j := by
  match i, hi, j, hj with
  | 0, _, 0, _ | 1, _, 1, _ | 2, _, 2, _ | 3, _, 3, _ => rfl
  | 0, _, 1, _ | 0, _, 2, _ | 0, _, 3, _ | 1, _, 0, _ | 1, _, 2, _ | 1, _, 3, _ | 2, _, 0, _ | 2, _, 1, _ | 2, _, 3, _ | 3, _, 0, _ | 3, _, 1, _ | 3, _, 2, _ => simp [key, nm] at h

def b2n (b : Bool) : Nat := if b then 1 else 0
theorem size_dat (f : Nat → Option Int) : Maps.size (dat f) = b2n (f 0).isSome + b2n (f 1).isSome + b2n (f 2).isSome + b2n (f 3).isSome := by
  unfold dat; cases f 0 <;> cases f 1 <;> cases f 2 <;> cases f 3 <;> rfl

theorem put_datB (g : Nat → Bool) (j : Nat) (hj : j < 4) : (datB g).put (key j) (.lit (.bool true)) = datB (updB g j) := by
  match j, hj with
  | 0, _ => unfold datB updB; cases g 0 <;> cases g 1 <;> cases g 2 <;> cases g 3 <;> rfl
  | 1, _ => unfold datB updB; cases g 0 <;> cases g 1 <;> cases g 2 <;> cases g 3 <;> rfl
  | 2, _ => unfold datB updB; cases g 0 <;> cases g 1 <;> cases g 2 <;> cases g 3 <;> rfl
  | 3, _ => unfold datB updB; cases g 0 <;> cases g 1 <;> cases g 2 <;> cases g 3 <;> rfl
theorem at_datB (g : Nat → Bool) (j : Nat) (hj : j < 4) : (datB g).atKey (key j) (.lit (.bool false)) = .lit (.bool (g j)) := by
  match j, hj with
  | 0, _ => unfold datB; cases g 0 <;> cases g 1 <;> cases g 2 <;> cases g 3 <;> rfl
  | 1, _ => unfold datB; cases g 0 <;> cases g 1 <;> cases g 2 <;> cases g 3 <;> rfl
  | 2, _ => unfold datB; cases g 0 <;> cases g 1 <;> cases g 2 <;> cases g 3 <;> rfl
  | 3, _ => unfold datB; cases g 0 <;> cases g 1 <;> cases g 2 <;> cases g 3 <;> rfl

theorem law9 : Keyed Yba.prog 9 := string_keyed Yba.underlying9
theorem zero30 (w : World) : (zeroValue 30).run Yba.prog w = .ok (.int .u64 0) w := by kernel_rfl
theorem zero4 (w : World) : (zeroValue 4).run Yba.prog w = .ok (.bool false) w := by kernel_rfl
theorem keyOf_nm (j : Nat) : keyOf Yba.prog 9 (.string (nmB j)) = some (key j) := by
  have h : (nmB j).size ≤ maxLen := by
    unfold nmB nm maxLen
    split <;> decide
  exact WideMaps.keyOf_string_mk Yba.underlying9 h

set_option maxHeartbeats 400000 in
theorem name_any (x : Int) (w : World) (h0 : 0 ≤ x) (h1 : x ≤ 255) :
    Calls Yba.prog 8 #[.int .u8 x] w fun e w' => e = .returned (.string (nmB (x % 4).toNat)) ∧ w' = w := by
  rcases (show x % 4 = 0 ∨ x % 4 = 1 ∨ x % 4 = 2 ∨ x % 4 = 3 from by omega) with h | h | h | h
  all_goals
    rw [h]
    go_enter Yba.func8, Yba.ntmps8
    go_wp2
    go_ret
    exact ⟨rfl, rfl⟩
end Go.Proofs.Ybulkymy
