/-
  THE CLOSED FACTS FOR A WALK OVER fmt.errorf IN THIS PROGRAM, after the pattern of the guide's CheckFmt.lean, typed for this dump; and fmt.Errorf's contract at each of the seven formats: a new error, never nil.
-/
import Derived.Test.YbulkyliFmtKit
import Derived.Stop.CallBack
import Derived.Stop.IfaceNil
import GoSem.ClaimData
namespace Go.Proofs.YbulkyliFmt
open Go.RowKit Go.Extern.Stop Go.Stop Go.Extern

theorem call11 (args : Array Value) (w : World) : (callFunc 11 args).run Ybaf.prog w = ((FmtStop.errorf #[9, 43] #[30] args).run Ybaf.prog w).andThen fun v w' => .ok (.value v) w' :=
  run_callFunc_extern Ybaf.func11 (by kernel_rfl) (by kernel_rfl) (by kernel_rfl) (by kernel_rfl) args w
theorem fguard (name : String) (w : World) : (FmtStop.guard name).run Ybaf.prog w = .ok () w := by kernel_rfl
def shape3 : List UInt8 := [5, 3, 0, 0, 0, 0, 0, 0, 0, 105, 110, 116]
def shape5 : List UInt8 := [6, 5, 0, 0, 0, 0, 0, 0, 0, 117, 105, 110, 116, 56]
theorem op3 (name : String) (x : Int) (w : World) : (FmtStop.operand name true 100 false (.iface 3 (.int .i64 x))).run Ybaf.prog w = .ok (shape3, Go.Extern.Stop.digits 8 (x % 2 ^ 64).toNat) w := by kernel_rfl
theorem op5 (name : String) (x : Int) (w : World) : (FmtStop.operand name true 100 false (.iface 5 (.int .u8 x))).run Ybaf.prog w = .ok (shape5, Go.Extern.Stop.digits 8 (x % 2 ^ 64).toNat) w := by kernel_rfl
theorem ptr50 (w : World) : (FmtStop.ptrTo "errors.errorString").run Ybaf.prog w = .ok 50 w := by kernel_rfl
theorem elem50 (w : World) : (elemOf 50).run Ybaf.prog w = .ok 52 w := by kernel_rfl
theorem fmt0 : FmtStop.printed? ⟨#[102, 114, 97, 109, 101, 58, 32, 37, 100, 32, 98, 121, 116, 101, 115, 32, 97, 114, 101, 32, 116, 111, 111, 32, 102, 101, 119, 32, 102, 111, 114, 32, 97, 32, 102, 114, 97, 109, 101]⟩ 1 = some [(0, 100, false)] := by kernel_rfl
theorem fmt0r (w : World) : (FmtDoors.printed ⟨#[102, 114, 97, 109, 101, 58, 32, 37, 100, 32, 98, 121, 116, 101, 115, 32, 97, 114, 101, 32, 116, 111, 111, 32, 102, 101, 119, 32, 102, 111, 114, 32, 97, 32, 102, 114, 97, 109, 101]⟩ 1).run Ybaf.prog w = .ok [(0, 100, false)] w := by kernel_rfl
theorem fmt1 : FmtStop.printed? ⟨#[102, 114, 97, 109, 101, 58, 32, 116, 114, 97, 110, 115, 97, 99, 116, 105, 111, 110, 32, 73, 68, 32, 111, 102, 32, 37, 100, 32, 98, 121, 116, 101, 115, 44, 32, 119, 97, 110, 116, 32, 37, 100]⟩ 2 = some [(0, 100, false), (1, 100, false)] := by kernel_rfl
theorem fmt1r (w : World) : (FmtDoors.printed ⟨#[102, 114, 97, 109, 101, 58, 32, 116, 114, 97, 110, 115, 97, 99, 116, 105, 111, 110, 32, 73, 68, 32, 111, 102, 32, 37, 100, 32, 98, 121, 116, 101, 115, 44, 32, 119, 97, 110, 116, 32, 37, 100]⟩ 2).run Ybaf.prog w = .ok [(0, 100, false), (1, 100, false)] w := by kernel_rfl
theorem fmt2 : FmtStop.printed? ⟨#[102, 114, 97, 109, 101, 58, 32, 116, 105, 99, 107, 101, 116, 32, 111, 102, 32, 37, 100, 32, 98, 121, 116, 101, 115, 32, 105, 110, 32, 97, 32, 102, 114, 97, 109, 101, 32, 111, 102, 32, 37, 100]⟩ 2 = some [(0, 100, false), (1, 100, false)] := by kernel_rfl
theorem fmt2r (w : World) : (FmtDoors.printed ⟨#[102, 114, 97, 109, 101, 58, 32, 116, 105, 99, 107, 101, 116, 32, 111, 102, 32, 37, 100, 32, 98, 121, 116, 101, 115, 32, 105, 110, 32, 97, 32, 102, 114, 97, 109, 101, 32, 111, 102, 32, 37, 100]⟩ 2).run Ybaf.prog w = .ok [(0, 100, false), (1, 100, false)] w := by kernel_rfl
theorem fmt3 : FmtStop.printed? ⟨#[102, 114, 97, 109, 101, 58, 32, 37, 100, 32, 98, 121, 116, 101, 115, 32, 101, 110, 100, 32, 98, 101, 102, 111, 114, 101, 32, 116, 104, 101, 32, 101, 110, 99, 114, 121, 112, 116, 101, 100, 32, 100, 97, 116, 97, 39, 115, 32, 108, 101, 110, 103, 116, 104]⟩ 1 = some [(0, 100, false)] := by kernel_rfl
theorem fmt3r (w : World) : (FmtDoors.printed ⟨#[102, 114, 97, 109, 101, 58, 32, 37, 100, 32, 98, 121, 116, 101, 115, 32, 101, 110, 100, 32, 98, 101, 102, 111, 114, 101, 32, 116, 104, 101, 32, 101, 110, 99, 114, 121, 112, 116, 101, 100, 32, 100, 97, 116, 97, 39, 115, 32, 108, 101, 110, 103, 116, 104]⟩ 1).run Ybaf.prog w = .ok [(0, 100, false)] w := by kernel_rfl
theorem fmt4 : FmtStop.printed? ⟨#[102, 114, 97, 109, 101, 58, 32, 37, 100, 32, 98, 121, 116, 101, 115, 32, 111, 102, 32, 101, 110, 99, 114, 121, 112, 116, 101, 100, 32, 100, 97, 116, 97, 32, 97, 114, 101, 32, 110, 111, 116, 32, 97, 32, 119, 104, 111, 108, 101, 32, 110, 117, 109, 98, 101, 114, 32, 111, 102, 32, 98, 108, 111, 99, 107, 115]⟩ 1 = some [(0, 100, false)] := by kernel_rfl
theorem fmt4r (w : World) : (FmtDoors.printed ⟨#[102, 114, 97, 109, 101, 58, 32, 37, 100, 32, 98, 121, 116, 101, 115, 32, 111, 102, 32, 101, 110, 99, 114, 121, 112, 116, 101, 100, 32, 100, 97, 116, 97, 32, 97, 114, 101, 32, 110, 111, 116, 32, 97, 32, 119, 104, 111, 108, 101, 32, 110, 117, 109, 98, 101, 114, 32, 111, 102, 32, 98, 108, 111, 99, 107, 115]⟩ 1).run Ybaf.prog w = .ok [(0, 100, false)] w := by kernel_rfl
theorem fmt5 : FmtStop.printed? ⟨#[102, 114, 97, 109, 101, 58, 32, 37, 100, 32, 98, 121, 116, 101, 115, 32, 119, 104, 101, 114, 101, 32, 105, 116, 115, 32, 108, 101, 110, 103, 116, 104, 115, 32, 109, 97, 107, 101, 32, 37, 100]⟩ 2 = some [(0, 100, false), (1, 100, false)] := by kernel_rfl
theorem fmt5r (w : World) : (FmtDoors.printed ⟨#[102, 114, 97, 109, 101, 58, 32, 37, 100, 32, 98, 121, 116, 101, 115, 32, 119, 104, 101, 114, 101, 32, 105, 116, 115, 32, 108, 101, 110, 103, 116, 104, 115, 32, 109, 97, 107, 101, 32, 37, 100]⟩ 2).run Ybaf.prog w = .ok [(0, 100, false), (1, 100, false)] w := by kernel_rfl
theorem fmt6 : FmtStop.printed? ⟨#[102, 114, 97, 109, 101, 58, 32, 77, 65, 67, 32, 111, 102, 32, 37, 100, 32, 98, 121, 116, 101, 115, 44, 32, 119, 97, 110, 116, 32, 37, 100]⟩ 2 = some [(0, 100, false), (1, 100, false)] := by kernel_rfl
theorem fmt6r (w : World) : (FmtDoors.printed ⟨#[102, 114, 97, 109, 101, 58, 32, 77, 65, 67, 32, 111, 102, 32, 37, 100, 32, 98, 121, 116, 101, 115, 44, 32, 119, 97, 110, 116, 32, 37, 100]⟩ 2).run Ybaf.prog w = .ok [(0, 100, false), (1, 100, false)] w := by kernel_rfl
attribute [local go_sem] call11 fguard op3 op5 ptr50 elem50 fmt0 fmt0r fmt1 fmt1r fmt2 fmt2r fmt3 fmt3r fmt4 fmt4r fmt5 fmt5r fmt6 fmt6r

-- format 0
theorem errorf0 (F : Interp) (v0 : Int) (blk : Nat) (w : World) (hF : F.answers w.tape) (hc0 : w.cell? ⟨blk, 0, none⟩ = some (.iface 3 (.int .i64 v0))) :
    Calls Ybaf.prog 9 #[.string ⟨#[102, 114, 97, 109, 101, 58, 32, 37, 100, 32, 98, 121, 116, 101, 115, 32, 97, 114, 101, 32, 116, 111, 111, 32, 102, 101, 119, 32, 102, 111, 114, 32, 97, 32, 102, 114, 97, 109, 101]⟩, .slice (some ⟨blk, 0, none⟩) 1 1] w fun e w' => e = .returned (.iface 50 (.pointer (some ⟨w.heap.size, 0, none⟩))) ∧ ∃ s, w' = (w.alloc (.cells #[.string s] 52)).drew := by
  have hF' : ∀ i name reading k range, w.tape i (.extern (word name reading k) range) = F name reading k := hF
  go_enter Ybaf.func9, Ybaf.ntmps9
  go_wp2
  go_ret
  exact ⟨rfl, _, rfl⟩

-- format 1
theorem errorf1 (F : Interp) (v0 v1 : Int) (blk : Nat) (w : World) (hF : F.answers w.tape) (hc0 : w.cell? ⟨blk, 0, none⟩ = some (.iface 5 (.int .u8 v0))) (hc1 : w.cell? ⟨blk, 1, none⟩ = some (.iface 3 (.int .i64 v1))) :
    Calls Ybaf.prog 9 #[.string ⟨#[102, 114, 97, 109, 101, 58, 32, 116, 114, 97, 110, 115, 97, 99, 116, 105, 111, 110, 32, 73, 68, 32, 111, 102, 32, 37, 100, 32, 98, 121, 116, 101, 115, 44, 32, 119, 97, 110, 116, 32, 37, 100]⟩, .slice (some ⟨blk, 0, none⟩) 2 2] w fun e w' => e = .returned (.iface 50 (.pointer (some ⟨w.heap.size, 0, none⟩))) ∧ ∃ s, w' = (w.alloc (.cells #[.string s] 52)).drew := by
  have hF' : ∀ i name reading k range, w.tape i (.extern (word name reading k) range) = F name reading k := hF
  go_enter Ybaf.func9, Ybaf.ntmps9
  go_wp2
  go_ret
  exact ⟨rfl, _, rfl⟩

-- format 2
theorem errorf2 (F : Interp) (v0 v1 : Int) (blk : Nat) (w : World) (hF : F.answers w.tape) (hc0 : w.cell? ⟨blk, 0, none⟩ = some (.iface 3 (.int .i64 v0))) (hc1 : w.cell? ⟨blk, 1, none⟩ = some (.iface 3 (.int .i64 v1))) :
    Calls Ybaf.prog 9 #[.string ⟨#[102, 114, 97, 109, 101, 58, 32, 116, 105, 99, 107, 101, 116, 32, 111, 102, 32, 37, 100, 32, 98, 121, 116, 101, 115, 32, 105, 110, 32, 97, 32, 102, 114, 97, 109, 101, 32, 111, 102, 32, 37, 100]⟩, .slice (some ⟨blk, 0, none⟩) 2 2] w fun e w' => e = .returned (.iface 50 (.pointer (some ⟨w.heap.size, 0, none⟩))) ∧ ∃ s, w' = (w.alloc (.cells #[.string s] 52)).drew := by
  have hF' : ∀ i name reading k range, w.tape i (.extern (word name reading k) range) = F name reading k := hF
  go_enter Ybaf.func9, Ybaf.ntmps9
  go_wp2
  go_ret
  exact ⟨rfl, _, rfl⟩

-- format 3
theorem errorf3 (F : Interp) (v0 : Int) (blk : Nat) (w : World) (hF : F.answers w.tape) (hc0 : w.cell? ⟨blk, 0, none⟩ = some (.iface 3 (.int .i64 v0))) :
    Calls Ybaf.prog 9 #[.string ⟨#[102, 114, 97, 109, 101, 58, 32, 37, 100, 32, 98, 121, 116, 101, 115, 32, 101, 110, 100, 32, 98, 101, 102, 111, 114, 101, 32, 116, 104, 101, 32, 101, 110, 99, 114, 121, 112, 116, 101, 100, 32, 100, 97, 116, 97, 39, 115, 32, 108, 101, 110, 103, 116, 104]⟩, .slice (some ⟨blk, 0, none⟩) 1 1] w fun e w' => e = .returned (.iface 50 (.pointer (some ⟨w.heap.size, 0, none⟩))) ∧ ∃ s, w' = (w.alloc (.cells #[.string s] 52)).drew := by
  have hF' : ∀ i name reading k range, w.tape i (.extern (word name reading k) range) = F name reading k := hF
  go_enter Ybaf.func9, Ybaf.ntmps9
  go_wp2
  go_ret
  exact ⟨rfl, _, rfl⟩

-- format 4
theorem errorf4 (F : Interp) (v0 : Int) (blk : Nat) (w : World) (hF : F.answers w.tape) (hc0 : w.cell? ⟨blk, 0, none⟩ = some (.iface 3 (.int .i64 v0))) :
    Calls Ybaf.prog 9 #[.string ⟨#[102, 114, 97, 109, 101, 58, 32, 37, 100, 32, 98, 121, 116, 101, 115, 32, 111, 102, 32, 101, 110, 99, 114, 121, 112, 116, 101, 100, 32, 100, 97, 116, 97, 32, 97, 114, 101, 32, 110, 111, 116, 32, 97, 32, 119, 104, 111, 108, 101, 32, 110, 117, 109, 98, 101, 114, 32, 111, 102, 32, 98, 108, 111, 99, 107, 115]⟩, .slice (some ⟨blk, 0, none⟩) 1 1] w fun e w' => e = .returned (.iface 50 (.pointer (some ⟨w.heap.size, 0, none⟩))) ∧ ∃ s, w' = (w.alloc (.cells #[.string s] 52)).drew := by
  have hF' : ∀ i name reading k range, w.tape i (.extern (word name reading k) range) = F name reading k := hF
  go_enter Ybaf.func9, Ybaf.ntmps9
  go_wp2
  go_ret
  exact ⟨rfl, _, rfl⟩

-- format 5
theorem errorf5 (F : Interp) (v0 v1 : Int) (blk : Nat) (w : World) (hF : F.answers w.tape) (hc0 : w.cell? ⟨blk, 0, none⟩ = some (.iface 3 (.int .i64 v0))) (hc1 : w.cell? ⟨blk, 1, none⟩ = some (.iface 3 (.int .i64 v1))) :
    Calls Ybaf.prog 9 #[.string ⟨#[102, 114, 97, 109, 101, 58, 32, 37, 100, 32, 98, 121, 116, 101, 115, 32, 119, 104, 101, 114, 101, 32, 105, 116, 115, 32, 108, 101, 110, 103, 116, 104, 115, 32, 109, 97, 107, 101, 32, 37, 100]⟩, .slice (some ⟨blk, 0, none⟩) 2 2] w fun e w' => e = .returned (.iface 50 (.pointer (some ⟨w.heap.size, 0, none⟩))) ∧ ∃ s, w' = (w.alloc (.cells #[.string s] 52)).drew := by
  have hF' : ∀ i name reading k range, w.tape i (.extern (word name reading k) range) = F name reading k := hF
  go_enter Ybaf.func9, Ybaf.ntmps9
  go_wp2
  go_ret
  exact ⟨rfl, _, rfl⟩

-- format 6
theorem errorf6 (F : Interp) (v0 v1 : Int) (blk : Nat) (w : World) (hF : F.answers w.tape) (hc0 : w.cell? ⟨blk, 0, none⟩ = some (.iface 5 (.int .u8 v0))) (hc1 : w.cell? ⟨blk, 1, none⟩ = some (.iface 3 (.int .i64 v1))) :
    Calls Ybaf.prog 9 #[.string ⟨#[102, 114, 97, 109, 101, 58, 32, 77, 65, 67, 32, 111, 102, 32, 37, 100, 32, 98, 121, 116, 101, 115, 44, 32, 119, 97, 110, 116, 32, 37, 100]⟩, .slice (some ⟨blk, 0, none⟩) 2 2] w fun e w' => e = .returned (.iface 50 (.pointer (some ⟨w.heap.size, 0, none⟩))) ∧ ∃ s, w' = (w.alloc (.cells #[.string s] 52)).drew := by
  have hF' : ∀ i name reading k range, w.tape i (.extern (word name reading k) range) = F name reading k := hF
  go_enter Ybaf.func9, Ybaf.ntmps9
  go_wp2
  go_ret
  exact ⟨rfl, _, rfl⟩

end Go.Proofs.YbulkyliFmt
