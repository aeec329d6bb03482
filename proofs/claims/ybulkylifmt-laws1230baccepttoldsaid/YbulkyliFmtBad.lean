/-
  checkID, parseTail and ParseRequest, where the frame is not well laid out: an error, never nil.
-/
import Derived.Test.YbulkyliFmtTail
import Derived.Test.YbulkyliFmtErr
namespace Go.Proofs.YbulkyliFmt
open Go.RowKit Go.Extern.Stop Go.Stop Go.Extern
attribute [local simp] rd_any wr_16 wr_18 wr_19
attribute [local go_sem] cellOr Value.oneCell' rd_run0 rd_run1 rd_run2 rd_run16 rd_run18 rd_run19 wr_run rowLen_drewN rowLen_drew rowLen_at rowLen_past putRow_at putRow_past putRow_drew putRow_drewN alloc_drewN Builtin.copy_ Builtin.lenOf Builtin.firstCells

theorem checkID_1 (F : Interp) (a : Option Addr) (n c : Nat) (w : World) (hF : F.answers w.tape) (hn : (n : Int) < 18) :
    Calls Ybaf.prog 8 #[.slice a n c, .int .i64 18] w fun e w' => e = .returned (.iface 50 (.pointer (some ⟨w.heap.size + 1, 0, none⟩))) ∧ ∃ o1 o2, w' = ((w.alloc o1).alloc o2).drew := by
  go_enter Ybaf.func8, Ybaf.ntmps8
  go_wp2_with (go_at_call 9; refine (errorf0 F (n : Int) w.heap.size _ (by exact hF) (by go_simp)).mono ?_; rintro e w1 ⟨rfl, s, rfl⟩)
  go_ret
  exact ⟨by simp, _, _, rfl⟩

theorem checkID_2 (F : Interp) (b o n c : Nat) (z : Int) (w : World) (hF : F.answers w.tape) (hn : 18 ≤ n) (hm : n ≤ 4096) (hc : w.cell? ⟨b, o, none⟩ = some (.int .u8 z)) (hz : (z != 16) = true) :
    Calls Ybaf.prog 8 #[.slice (some ⟨b, o, none⟩) n c, .int .i64 18] w fun e w' => e = .returned (.iface 50 (.pointer (some ⟨w.heap.size + 1, 0, none⟩))) ∧ ∃ o1 o2, w' = ((w.alloc o1).alloc o2).drew := by
  go_enter Ybaf.func8, Ybaf.ntmps8
  go_wp2_with (go_at_call 9; refine (errorf1 F z 16 w.heap.size _ (by exact hF) (by go_simp) (by go_simp)).mono ?_; rintro e w1 ⟨rfl, s, rfl⟩)
  go_ret
  exact ⟨by simp, _, _, rfl⟩


set_option maxHeartbeats 1000000 in
theorem tail_1 (F : Interp) (b o n c off : Nat) (x0 x1 x2 x3 x4 x5 x6 x7 x8 x9 x10 x11 x12 x13 x14 x15 : Int) (w : World) (hF : F.answers w.tape) (hlt : n < off + 2) (ho : off ≤ 4096) :
    Calls Ybaf.prog 10 #[.slice (some ⟨b, o, none⟩) n c, .int .i64 off, .agg #[.int .u8 x0, .int .u8 x1, .int .u8 x2, .int .u8 x3, .int .u8 x4, .int .u8 x5, .int .u8 x6, .int .u8 x7, .int .u8 x8, .int .u8 x9, .int .u8 x10, .int .u8 x11, .int .u8 x12, .int .u8 x13, .int .u8 x14, .int .u8 x15]] w fun e w' => e = .returned (.tuple #[.agg #[.int .u8 0, .int .u8 0, .int .u8 0, .int .u8 0, .int .u8 0, .int .u8 0, .int .u8 0, .int .u8 0, .int .u8 0, .int .u8 0, .int .u8 0, .int .u8 0, .int .u8 0, .int .u8 0, .int .u8 0, .int .u8 0, .slice none 0 0, .slice none 0 0, .slice none 0 0], .iface 50 (.pointer (some ⟨w.heap.size + 3, 0, none⟩))]) ∧ ∃ o1 o2 k, w' = ((((w.alloc (.cells #[.int .u8 x0, .int .u8 x1, .int .u8 x2, .int .u8 x3, .int .u8 x4, .int .u8 x5, .int .u8 x6, .int .u8 x7, .int .u8 x8, .int .u8 x9, .int .u8 x10, .int .u8 x11, .int .u8 x12, .int .u8 x13, .int .u8 x14, .int .u8 x15] 23)).alloc (.cells #[.int .u8 0, .int .u8 0, .int .u8 0, .int .u8 0, .int .u8 0, .int .u8 0, .int .u8 0, .int .u8 0, .int .u8 0, .int .u8 0, .int .u8 0, .int .u8 0, .int .u8 0, .int .u8 0, .int .u8 0, .int .u8 0, .slice none 0 0, .slice none 0 0, .slice none 0 0] 28)).alloc o1).alloc o2).drewN k := by
  go_enter Ybaf.func10, Ybaf.ntmps10
  go_wp2_with (go_at_call 9; refine (errorf3 F (n : Int) (w.heap.size + 1 + 1) _ (by exact hF) (by go_simp)).mono ?_; rintro e w1 ⟨rfl, s, rfl⟩)
  refine bodyPost_ret (v := .tuple #[.agg #[.int .u8 0, .int .u8 0, .int .u8 0, .int .u8 0, .int .u8 0, .int .u8 0, .int .u8 0, .int .u8 0, .int .u8 0, .int .u8 0, .int .u8 0, .int .u8 0, .int .u8 0, .int .u8 0, .int .u8 0, .int .u8 0, .slice none 0 0, .slice none 0 0, .slice none 0 0], .iface 50 (.pointer (some ⟨w.heap.size + 3, 0, none⟩))]) ?_ rfl ⟨rfl, _, _, 1, rfl⟩
  simp [results, Ybaf.results10, go_sem]

set_option maxHeartbeats 1000000 in
theorem tail_2 (F : Interp) (b o n c off N : Nat) (y0 y1 : Int) (x0 x1 x2 x3 x4 x5 x6 x7 x8 x9 x10 x11 x12 x13 x14 x15 : Int) (w : World) (hF : F.answers w.tape)
    (c0 : w.cell? ⟨b, o + off, none⟩ = some (.int .u8 y0)) (c1 : w.cell? ⟨b, o + off + 1, none⟩ = some (.int .u8 y1)) (h0 : 0 ≤ y0) (h0' : y0 < 256) (h1 : 0 ≤ y1) (h1' : y1 < 256) (hN : y0 * 256 + y1 ≤ N) (hN' : N ≤ y0 * 256 + y1) (hge : off + 2 ≤ n) (hbad : ((N : Int) == 0) = true ∨ ((N : Int) == 0) = false ∧ ((N : Int) % 16 != 0) = true) (hn : n ≤ 4096) (hcap : n ≤ c) :
    Calls Ybaf.prog 10 #[.slice (some ⟨b, o, none⟩) n c, .int .i64 off, .agg #[.int .u8 x0, .int .u8 x1, .int .u8 x2, .int .u8 x3, .int .u8 x4, .int .u8 x5, .int .u8 x6, .int .u8 x7, .int .u8 x8, .int .u8 x9, .int .u8 x10, .int .u8 x11, .int .u8 x12, .int .u8 x13, .int .u8 x14, .int .u8 x15]] w fun e w' => e = .returned (.tuple #[.agg #[.int .u8 0, .int .u8 0, .int .u8 0, .int .u8 0, .int .u8 0, .int .u8 0, .int .u8 0, .int .u8 0, .int .u8 0, .int .u8 0, .int .u8 0, .int .u8 0, .int .u8 0, .int .u8 0, .int .u8 0, .int .u8 0, .slice none 0 0, .slice none 0 0, .slice none 0 0], .iface 50 (.pointer (some ⟨w.heap.size + 4, 0, none⟩))]) ∧ ∃ o1 o2 o3 k, w' = (((((w.alloc (.cells #[.int .u8 x0, .int .u8 x1, .int .u8 x2, .int .u8 x3, .int .u8 x4, .int .u8 x5, .int .u8 x6, .int .u8 x7, .int .u8 x8, .int .u8 x9, .int .u8 x10, .int .u8 x11, .int .u8 x12, .int .u8 x13, .int .u8 x14, .int .u8 x15] 23)).alloc (.cells #[.int .u8 0, .int .u8 0, .int .u8 0, .int .u8 0, .int .u8 0, .int .u8 0, .int .u8 0, .int .u8 0, .int .u8 0, .int .u8 0, .int .u8 0, .int .u8 0, .int .u8 0, .int .u8 0, .int .u8 0, .int .u8 0, .slice none 0 0, .slice none 0 0, .slice none 0 0] 28)).alloc o1).alloc o2).alloc o3).drewN k := by
  have hbb : b < w.heap.size := World.block_lt_of_cell? _ _ c0
  have c0' : ∀ o1 o2, ((w.alloc o1).alloc o2).cell? ⟨b, o + off, none⟩ = some (.int .u8 y0) := fun o1 o2 => cell_later (((Below.refl _ w).alloc (Nat.le_refl _) o1).alloc (by simp) o2) c0
  have c1' : ∀ o1 o2, ((w.alloc o1).alloc o2).cell? ⟨b, o + off + 1, none⟩ = some (.int .u8 y1) := fun o1 o2 => cell_later (((Below.refl _ w).alloc (Nat.le_refl _) o1).alloc (by simp) o2) c1
  have hco : ¬ c = off := by omega
  rcases hbad with hbad | ⟨hz, hbad⟩
  all_goals
    go_enter Ybaf.func10, Ybaf.ntmps10
    go_wp2_with fail
    go_region_with (go_at_call 13; refine (uint16_any b (o + off) _ _ y0 y1 N _ (by omega) (by exact c0' _ _) (by exact c1' _ _) h0 h0' h1 h1' (by omega) hN hN').mono ?_; rintro e w1 ⟨rfl, k, rfl⟩)
    all_goals
      go_wp2_with (go_at_call 9; refine (errorf4 F (N : Int) (w.heap.size + 1 + 1 + 1) _ (by exact hF) (by go_simp)).mono ?_; rintro e w1 ⟨rfl, s, rfl⟩)
      refine bodyPost_ret (v := .tuple #[.agg #[.int .u8 0, .int .u8 0, .int .u8 0, .int .u8 0, .int .u8 0, .int .u8 0, .int .u8 0, .int .u8 0, .int .u8 0, .int .u8 0, .int .u8 0, .int .u8 0, .int .u8 0, .int .u8 0, .int .u8 0, .int .u8 0, .slice none 0 0, .slice none 0 0, .slice none 0 0], .iface 50 (.pointer (some ⟨w.heap.size + 4, 0, none⟩))]) ?_ rfl ⟨rfl, _, _, _, _, rfl⟩
      simp [results, Ybaf.results10, go_sem]

set_option maxHeartbeats 1000000 in
theorem tail_3 (F : Interp) (b o n c off N : Nat) (y0 y1 : Int) (x0 x1 x2 x3 x4 x5 x6 x7 x8 x9 x10 x11 x12 x13 x14 x15 : Int) (w : World) (hF : F.answers w.tape)
    (c0 : w.cell? ⟨b, o + off, none⟩ = some (.int .u8 y0)) (c1 : w.cell? ⟨b, o + off + 1, none⟩ = some (.int .u8 y1)) (h0 : 0 ≤ y0) (h0' : y0 < 256) (h1 : 0 ≤ y1) (h1' : y1 < 256) (hN : y0 * 256 + y1 ≤ N) (hN' : N ≤ y0 * 256 + y1) (hge : off + 2 ≤ n) (hz : ((N : Int) == 0) = false) (hgood : ((N : Int) % 16 != 0) = false) (hne : ((n : Int) != (off : Int) + 2 + (N : Int) + 1 + 16) = true) (hn : n ≤ 4096) (hcap : n ≤ c) :
    Calls Ybaf.prog 10 #[.slice (some ⟨b, o, none⟩) n c, .int .i64 off, .agg #[.int .u8 x0, .int .u8 x1, .int .u8 x2, .int .u8 x3, .int .u8 x4, .int .u8 x5, .int .u8 x6, .int .u8 x7, .int .u8 x8, .int .u8 x9, .int .u8 x10, .int .u8 x11, .int .u8 x12, .int .u8 x13, .int .u8 x14, .int .u8 x15]] w fun e w' => e = .returned (.tuple #[.agg #[.int .u8 0, .int .u8 0, .int .u8 0, .int .u8 0, .int .u8 0, .int .u8 0, .int .u8 0, .int .u8 0, .int .u8 0, .int .u8 0, .int .u8 0, .int .u8 0, .int .u8 0, .int .u8 0, .int .u8 0, .int .u8 0, .slice none 0 0, .slice none 0 0, .slice none 0 0], .iface 50 (.pointer (some ⟨w.heap.size + 4, 0, none⟩))]) ∧ ∃ o1 o2 o3 k, w' = (((((w.alloc (.cells #[.int .u8 x0, .int .u8 x1, .int .u8 x2, .int .u8 x3, .int .u8 x4, .int .u8 x5, .int .u8 x6, .int .u8 x7, .int .u8 x8, .int .u8 x9, .int .u8 x10, .int .u8 x11, .int .u8 x12, .int .u8 x13, .int .u8 x14, .int .u8 x15] 23)).alloc (.cells #[.int .u8 0, .int .u8 0, .int .u8 0, .int .u8 0, .int .u8 0, .int .u8 0, .int .u8 0, .int .u8 0, .int .u8 0, .int .u8 0, .int .u8 0, .int .u8 0, .int .u8 0, .int .u8 0, .int .u8 0, .int .u8 0, .slice none 0 0, .slice none 0 0, .slice none 0 0] 28)).alloc o1).alloc o2).alloc o3).drewN k := by
  have hbb : b < w.heap.size := World.block_lt_of_cell? _ _ c0
  have c0' : ∀ o1 o2, ((w.alloc o1).alloc o2).cell? ⟨b, o + off, none⟩ = some (.int .u8 y0) := fun o1 o2 => cell_later (((Below.refl _ w).alloc (Nat.le_refl _) o1).alloc (by simp) o2) c0
  have c1' : ∀ o1 o2, ((w.alloc o1).alloc o2).cell? ⟨b, o + off + 1, none⟩ = some (.int .u8 y1) := fun o1 o2 => cell_later (((Below.refl _ w).alloc (Nat.le_refl _) o1).alloc (by simp) o2) c1
  have hco : ¬ c = off := by omega
  have hNl : N < 65536 := by omega
  go_enter Ybaf.func10, Ybaf.ntmps10
  go_wp2_with fail
  go_region_with (go_at_call 13; refine (uint16_any b (o + off) _ _ y0 y1 N _ (by omega) (by exact c0' _ _) (by exact c1' _ _) h0 h0' h1 h1' (by omega) hN hN').mono ?_; rintro e w1 ⟨rfl, k, rfl⟩)
  all_goals
    go_wp2_with (go_at_call 9; refine (errorf5 F (n : Int) ((off : Int) + 2 + (N : Int) + 1 + 16) (w.heap.size + 1 + 1 + 1) _ (by exact hF) (by go_simp) (by go_simp)).mono ?_; rintro e w1 ⟨rfl, s, rfl⟩)
    refine bodyPost_ret (v := .tuple #[.agg #[.int .u8 0, .int .u8 0, .int .u8 0, .int .u8 0, .int .u8 0, .int .u8 0, .int .u8 0, .int .u8 0, .int .u8 0, .int .u8 0, .int .u8 0, .int .u8 0, .int .u8 0, .int .u8 0, .int .u8 0, .int .u8 0, .slice none 0 0, .slice none 0 0, .slice none 0 0], .iface 50 (.pointer (some ⟨w.heap.size + 4, 0, none⟩))]) ?_ rfl ⟨rfl, _, _, _, _, rfl⟩
    simp [results, Ybaf.results10, go_sem]

set_option maxHeartbeats 1000000 in
theorem tail_4 (F : Interp) (b o n c off N : Nat) (y0 y1 z : Int) (x0 x1 x2 x3 x4 x5 x6 x7 x8 x9 x10 x11 x12 x13 x14 x15 : Int) (w : World) (hF : F.answers w.tape)
    (c0 : w.cell? ⟨b, o + off, none⟩ = some (.int .u8 y0)) (c1 : w.cell? ⟨b, o + off + 1, none⟩ = some (.int .u8 y1)) (c2 : w.cell? ⟨b, o + (off + 2 + N), none⟩ = some (.int .u8 z)) (h0 : 0 ≤ y0) (h0' : y0 < 256) (h1 : 0 ≤ y1) (h1' : y1 < 256) (hN : y0 * 256 + y1 ≤ N) (hN' : N ≤ y0 * 256 + y1) (hlen : n ≤ off + 2 + N + 17) (hlen' : off + 2 + N + 17 ≤ n) (hz : ((N : Int) == 0) = false) (hgood : ((N : Int) % 16 != 0) = false) (hze : (z != 16) = true) (hn : n ≤ 4096) (hcap : n ≤ c) :
    Calls Ybaf.prog 10 #[.slice (some ⟨b, o, none⟩) n c, .int .i64 off, .agg #[.int .u8 x0, .int .u8 x1, .int .u8 x2, .int .u8 x3, .int .u8 x4, .int .u8 x5, .int .u8 x6, .int .u8 x7, .int .u8 x8, .int .u8 x9, .int .u8 x10, .int .u8 x11, .int .u8 x12, .int .u8 x13, .int .u8 x14, .int .u8 x15]] w fun e w' => e = .returned (.tuple #[.agg #[.int .u8 0, .int .u8 0, .int .u8 0, .int .u8 0, .int .u8 0, .int .u8 0, .int .u8 0, .int .u8 0, .int .u8 0, .int .u8 0, .int .u8 0, .int .u8 0, .int .u8 0, .int .u8 0, .int .u8 0, .int .u8 0, .slice none 0 0, .slice none 0 0, .slice none 0 0], .iface 50 (.pointer (some ⟨w.heap.size + 4, 0, none⟩))]) ∧ ∃ o1 o2 o3 k, w' = (((((w.alloc (.cells #[.int .u8 x0, .int .u8 x1, .int .u8 x2, .int .u8 x3, .int .u8 x4, .int .u8 x5, .int .u8 x6, .int .u8 x7, .int .u8 x8, .int .u8 x9, .int .u8 x10, .int .u8 x11, .int .u8 x12, .int .u8 x13, .int .u8 x14, .int .u8 x15] 23)).alloc (.cells #[.int .u8 0, .int .u8 0, .int .u8 0, .int .u8 0, .int .u8 0, .int .u8 0, .int .u8 0, .int .u8 0, .int .u8 0, .int .u8 0, .int .u8 0, .int .u8 0, .int .u8 0, .int .u8 0, .int .u8 0, .int .u8 0, .slice none 0 0, .slice none 0 0, .slice none 0 0] 28)).alloc o1).alloc o2).alloc o3).drewN k := by
  have hbb : b < w.heap.size := World.block_lt_of_cell? _ _ c0
  have c0' : ∀ o1 o2, ((w.alloc o1).alloc o2).cell? ⟨b, o + off, none⟩ = some (.int .u8 y0) := fun o1 o2 => cell_later (((Below.refl _ w).alloc (Nat.le_refl _) o1).alloc (by simp) o2) c0
  have c1' : ∀ o1 o2, ((w.alloc o1).alloc o2).cell? ⟨b, o + off + 1, none⟩ = some (.int .u8 y1) := fun o1 o2 => cell_later (((Below.refl _ w).alloc (Nat.le_refl _) o1).alloc (by simp) o2) c1
  have c2' : ∀ o1 o2 o3, (((w.alloc o1).alloc o2).alloc o3).cell? ⟨b, o + (off + 2 + N), none⟩ = some (.int .u8 z) := fun o1 o2 o3 => cell_later ((((Below.refl _ w).alloc (Nat.le_refl _) o1).alloc (by simp) o2).alloc (by simp; omega) o3) c2
  have hco : ¬ c = off := by omega
  have hne : ((n : Int) != (off : Int) + 2 + (N : Int) + 1 + 16) = false := by simp; omega
  have hNl : N < 65536 := by omega
  go_enter Ybaf.func10, Ybaf.ntmps10
  go_wp2_with fail
  go_region_with (go_at_call 13; refine (uint16_any b (o + off) _ _ y0 y1 N _ (by omega) (by exact c0' _ _) (by exact c1' _ _) h0 h0' h1 h1' (by omega) hN hN').mono ?_; rintro e w1 ⟨rfl, k, rfl⟩)
  all_goals
    go_wp2_with (go_at_call 9; refine (errorf6 F z 16 (w.heap.size + 1 + 1 + 1) _ (by exact hF) (by go_simp) (by go_simp)).mono ?_; rintro e w1 ⟨rfl, s, rfl⟩)
    refine bodyPost_ret (v := .tuple #[.agg #[.int .u8 0, .int .u8 0, .int .u8 0, .int .u8 0, .int .u8 0, .int .u8 0, .int .u8 0, .int .u8 0, .int .u8 0, .int .u8 0, .int .u8 0, .int .u8 0, .int .u8 0, .int .u8 0, .int .u8 0, .int .u8 0, .slice none 0 0, .slice none 0 0, .slice none 0 0], .iface 50 (.pointer (some ⟨w.heap.size + 4, 0, none⟩))]) ?_ rfl ⟨rfl, _, _, _, _, rfl⟩
    simp [results, Ybaf.results10, go_sem]

end Go.Proofs.YbulkyliFmt
