/-
  ParseRequest, where the frame is not well laid out: an error, never nil; the ID as far as it was read.
-/
import Derived.Test.YbulkyliFmtBad2
namespace Go.Proofs.YbulkyliFmt
open Go.RowKit Go.Extern.Stop Go.Stop Go.Extern
attribute [local simp] rd_any wr_16 wr_18 wr_19
attribute [local go_sem] cellOr Value.oneCell' rd_run0 rd_run1 rd_run2 rd_run16 rd_run18 rd_run19 wr_run rowLen_drewN rowLen_drew rowLen_at rowLen_past putRow_at putRow_past putRow_drew putRow_drewN alloc_drewN Builtin.copy_ Builtin.lenOf Builtin.firstCells

set_option maxHeartbeats 2000000 in
theorem parse_5 (F : Interp) (b o n c T : Nat) (x0 x1 x2 x3 x4 x5 x6 x7 x8 x9 x10 x11 x12 x13 x14 x15 : Int) (w : World) (hF : F.answers w.tape)
    (a0 : w.cell? ⟨b, o, none⟩ = some (.int .u8 16))
    (a1 : w.cell? ⟨b, o + 1, none⟩ = some (.int .u8 x0)) (a2 : w.cell? ⟨b, o + 1 + 1, none⟩ = some (.int .u8 x1)) (a3 : w.cell? ⟨b, o + 1 + 2, none⟩ = some (.int .u8 x2)) (a4 : w.cell? ⟨b, o + 1 + 3, none⟩ = some (.int .u8 x3)) (a5 : w.cell? ⟨b, o + 1 + 4, none⟩ = some (.int .u8 x4)) (a6 : w.cell? ⟨b, o + 1 + 5, none⟩ = some (.int .u8 x5)) (a7 : w.cell? ⟨b, o + 1 + 6, none⟩ = some (.int .u8 x6)) (a8 : w.cell? ⟨b, o + 1 + 7, none⟩ = some (.int .u8 x7)) (a9 : w.cell? ⟨b, o + 1 + 8, none⟩ = some (.int .u8 x8)) (a10 : w.cell? ⟨b, o + 1 + 9, none⟩ = some (.int .u8 x9)) (a11 : w.cell? ⟨b, o + 1 + 10, none⟩ = some (.int .u8 x10)) (a12 : w.cell? ⟨b, o + 1 + 11, none⟩ = some (.int .u8 x11)) (a13 : w.cell? ⟨b, o + 1 + 12, none⟩ = some (.int .u8 x12)) (a14 : w.cell? ⟨b, o + 1 + 13, none⟩ = some (.int .u8 x13)) (a15 : w.cell? ⟨b, o + 1 + 14, none⟩ = some (.int .u8 x14)) (a16 : w.cell? ⟨b, o + 1 + 15, none⟩ = some (.int .u8 x15))
    (aT : w.cell? ⟨b, o + 17, none⟩ = some (.int .u8 T))
    (hge : 18 + T ≤ n) (hlt : n < 18 + T + 2) (hT : 0 < T) (hT' : T < 256) (hn : n ≤ 4096) (hcap : n ≤ c) :
    Calls Ybaf.prog 5 #[.slice (some ⟨b, o, none⟩) n c] w fun e w' => (∃ p, e = .returned (.tuple #[.agg #[.int .u8 x0, .int .u8 x1, .int .u8 x2, .int .u8 x3, .int .u8 x4, .int .u8 x5, .int .u8 x6, .int .u8 x7, .int .u8 x8, .int .u8 x9, .int .u8 x10, .int .u8 x11, .int .u8 x12, .int .u8 x13, .int .u8 x14, .int .u8 x15, .slice (some ⟨b, o + 18, none⟩) T T, .slice none 0 0], .agg #[.int .u8 0, .int .u8 0, .int .u8 0, .int .u8 0, .int .u8 0, .int .u8 0, .int .u8 0, .int .u8 0, .int .u8 0, .int .u8 0, .int .u8 0, .int .u8 0, .int .u8 0, .int .u8 0, .int .u8 0, .int .u8 0, .slice none 0 0, .slice none 0 0, .slice none 0 0], .iface 50 p])) ∧ Below w.heap.size w w' := by
  have hb0 : b < w.heap.size := World.block_lt_of_cell? _ _ a0
  have hb1 : b < w.heap.size + 1 := by omega
  have hb2 : b < w.heap.size + 1 + 1 := by omega
  have hb3 : b < w.heap.size + 1 + 1 + 1 := by omega
  have hmin : min (n - 1) 16 = 16 := Nat.min_eq_right (by omega)
  have hT0 : ((T : Int) == 0) = false := by simp; omega
  have hd : decide ((n : Int) < 18 + (T : Int)) = false := by simp; omega
  go_enter Ybaf.func5, Ybaf.ntmps5
  go_wp2_with (first | (go_at_call 8; refine (checkID_nil b o n c _ (by omega) ?_ (by omega)).mono ?_; rotate_right; (rintro e w1 ⟨rfl, rfl⟩); rotate_right; (go_simp)))
  go_region
  go_wp2_with fail
  refine (tail_1_at F b o n c (18 + T) (18 + (T : Int)) (by omega) x0 x1 x2 x3 x4 x5 x6 x7 x8 x9 x10 x11 x12 x13 x14 x15 _ (by exact hF) hlt (by omega)).mono ?_
  rintro e w1 ⟨rfl, o1, o2, k, rfl⟩
  go_wp2_with fail
  go_region
  go_wp2
  refine bodyPost_ret (v := .tuple #[.agg #[.int .u8 x0, .int .u8 x1, .int .u8 x2, .int .u8 x3, .int .u8 x4, .int .u8 x5, .int .u8 x6, .int .u8 x7, .int .u8 x8, .int .u8 x9, .int .u8 x10, .int .u8 x11, .int .u8 x12, .int .u8 x13, .int .u8 x14, .int .u8 x15, .slice (some ⟨b, o + 18, none⟩) T T, .slice none 0 0], .agg #[.int .u8 0, .int .u8 0, .int .u8 0, .int .u8 0, .int .u8 0, .int .u8 0, .int .u8 0, .int .u8 0, .int .u8 0, .int .u8 0, .int .u8 0, .int .u8 0, .int .u8 0, .int .u8 0, .int .u8 0, .int .u8 0, .slice none 0 0, .slice none 0 0, .slice none 0 0], .iface 50 (.pointer (some ⟨w.heap.size + 6, 0, none⟩))]) ?_ rfl ⟨⟨_, rfl⟩, ?_⟩
  · simp [results, Ybaf.results5, go_sem]
  · repeat (first | exact Below.refl _ _ | apply below_drewN | apply Below.drew | refine Below.alloc ?_ (by simp; try omega) _)

set_option maxHeartbeats 2000000 in
theorem parse_6 (F : Interp) (b o n c T N : Nat) (y0 y1 : Int) (x0 x1 x2 x3 x4 x5 x6 x7 x8 x9 x10 x11 x12 x13 x14 x15 : Int) (w : World) (hF : F.answers w.tape)
    (a0 : w.cell? ⟨b, o, none⟩ = some (.int .u8 16))
    (a1 : w.cell? ⟨b, o + 1, none⟩ = some (.int .u8 x0)) (a2 : w.cell? ⟨b, o + 1 + 1, none⟩ = some (.int .u8 x1)) (a3 : w.cell? ⟨b, o + 1 + 2, none⟩ = some (.int .u8 x2)) (a4 : w.cell? ⟨b, o + 1 + 3, none⟩ = some (.int .u8 x3)) (a5 : w.cell? ⟨b, o + 1 + 4, none⟩ = some (.int .u8 x4)) (a6 : w.cell? ⟨b, o + 1 + 5, none⟩ = some (.int .u8 x5)) (a7 : w.cell? ⟨b, o + 1 + 6, none⟩ = some (.int .u8 x6)) (a8 : w.cell? ⟨b, o + 1 + 7, none⟩ = some (.int .u8 x7)) (a9 : w.cell? ⟨b, o + 1 + 8, none⟩ = some (.int .u8 x8)) (a10 : w.cell? ⟨b, o + 1 + 9, none⟩ = some (.int .u8 x9)) (a11 : w.cell? ⟨b, o + 1 + 10, none⟩ = some (.int .u8 x10)) (a12 : w.cell? ⟨b, o + 1 + 11, none⟩ = some (.int .u8 x11)) (a13 : w.cell? ⟨b, o + 1 + 12, none⟩ = some (.int .u8 x12)) (a14 : w.cell? ⟨b, o + 1 + 13, none⟩ = some (.int .u8 x13)) (a15 : w.cell? ⟨b, o + 1 + 14, none⟩ = some (.int .u8 x14)) (a16 : w.cell? ⟨b, o + 1 + 15, none⟩ = some (.int .u8 x15))
    (aT : w.cell? ⟨b, o + 17, none⟩ = some (.int .u8 T))
    (c0 : w.cell? ⟨b, o + (18 + T), none⟩ = some (.int .u8 y0)) (c1 : w.cell? ⟨b, o + (18 + T) + 1, none⟩ = some (.int .u8 y1)) (h0 : 0 ≤ y0) (h0' : y0 < 256) (h1 : 0 ≤ y1) (h1' : y1 < 256) (hN : y0 * 256 + y1 ≤ N) (hN' : N ≤ y0 * 256 + y1) (hge : 18 + T + 2 ≤ n) (hbad : ((N : Int) == 0) = true ∨ ((N : Int) == 0) = false ∧ ((N : Int) % 16 != 0) = true) (hT : 0 < T) (hT' : T < 256) (hn : n ≤ 4096) (hcap : n ≤ c) :
    Calls Ybaf.prog 5 #[.slice (some ⟨b, o, none⟩) n c] w fun e w' => (∃ p, e = .returned (.tuple #[.agg #[.int .u8 x0, .int .u8 x1, .int .u8 x2, .int .u8 x3, .int .u8 x4, .int .u8 x5, .int .u8 x6, .int .u8 x7, .int .u8 x8, .int .u8 x9, .int .u8 x10, .int .u8 x11, .int .u8 x12, .int .u8 x13, .int .u8 x14, .int .u8 x15, .slice (some ⟨b, o + 18, none⟩) T T, .slice none 0 0], .agg #[.int .u8 0, .int .u8 0, .int .u8 0, .int .u8 0, .int .u8 0, .int .u8 0, .int .u8 0, .int .u8 0, .int .u8 0, .int .u8 0, .int .u8 0, .int .u8 0, .int .u8 0, .int .u8 0, .int .u8 0, .int .u8 0, .slice none 0 0, .slice none 0 0, .slice none 0 0], .iface 50 p])) ∧ Below w.heap.size w w' := by
  have hb0 : b < w.heap.size := World.block_lt_of_cell? _ _ a0
  have hb1 : b < w.heap.size + 1 := by omega
  have hb2 : b < w.heap.size + 1 + 1 := by omega
  have hb3 : b < w.heap.size + 1 + 1 + 1 := by omega
  have hmin : min (n - 1) 16 = 16 := Nat.min_eq_right (by omega)
  have hT0 : ((T : Int) == 0) = false := by simp; omega
  have hd : decide ((n : Int) < 18 + (T : Int)) = false := by simp; omega
  go_enter Ybaf.func5, Ybaf.ntmps5
  go_wp2_with (first | (go_at_call 8; refine (checkID_nil b o n c _ (by omega) ?_ (by omega)).mono ?_; rotate_right; (rintro e w1 ⟨rfl, rfl⟩); rotate_right; (go_simp)))
  go_region
  go_wp2_with fail
  refine (tail_2_at F b o n c (18 + T) N (18 + (T : Int)) (by omega) y0 y1 x0 x1 x2 x3 x4 x5 x6 x7 x8 x9 x10 x11 x12 x13 x14 x15 _ (by exact hF) ?_ ?_ h0 h0' h1 h1' hN hN' hge hbad hn hcap).mono ?_
  · go_simp
  · go_simp
  rintro e w1 ⟨rfl, o1, o2, o3, k, rfl⟩
  go_wp2_with fail
  go_region
  go_wp2
  refine bodyPost_ret (v := .tuple #[.agg #[.int .u8 x0, .int .u8 x1, .int .u8 x2, .int .u8 x3, .int .u8 x4, .int .u8 x5, .int .u8 x6, .int .u8 x7, .int .u8 x8, .int .u8 x9, .int .u8 x10, .int .u8 x11, .int .u8 x12, .int .u8 x13, .int .u8 x14, .int .u8 x15, .slice (some ⟨b, o + 18, none⟩) T T, .slice none 0 0], .agg #[.int .u8 0, .int .u8 0, .int .u8 0, .int .u8 0, .int .u8 0, .int .u8 0, .int .u8 0, .int .u8 0, .int .u8 0, .int .u8 0, .int .u8 0, .int .u8 0, .int .u8 0, .int .u8 0, .int .u8 0, .int .u8 0, .slice none 0 0, .slice none 0 0, .slice none 0 0], .iface 50 (.pointer (some ⟨w.heap.size + 7, 0, none⟩))]) ?_ rfl ⟨⟨_, rfl⟩, ?_⟩
  · simp [results, Ybaf.results5, go_sem]
  · repeat (first | exact Below.refl _ _ | apply below_drewN | apply Below.drew | refine Below.alloc ?_ (by simp; try omega) _)

set_option maxHeartbeats 2000000 in
theorem parse_7 (F : Interp) (b o n c T N : Nat) (y0 y1 : Int) (x0 x1 x2 x3 x4 x5 x6 x7 x8 x9 x10 x11 x12 x13 x14 x15 : Int) (w : World) (hF : F.answers w.tape)
    (a0 : w.cell? ⟨b, o, none⟩ = some (.int .u8 16))
    (a1 : w.cell? ⟨b, o + 1, none⟩ = some (.int .u8 x0)) (a2 : w.cell? ⟨b, o + 1 + 1, none⟩ = some (.int .u8 x1)) (a3 : w.cell? ⟨b, o + 1 + 2, none⟩ = some (.int .u8 x2)) (a4 : w.cell? ⟨b, o + 1 + 3, none⟩ = some (.int .u8 x3)) (a5 : w.cell? ⟨b, o + 1 + 4, none⟩ = some (.int .u8 x4)) (a6 : w.cell? ⟨b, o + 1 + 5, none⟩ = some (.int .u8 x5)) (a7 : w.cell? ⟨b, o + 1 + 6, none⟩ = some (.int .u8 x6)) (a8 : w.cell? ⟨b, o + 1 + 7, none⟩ = some (.int .u8 x7)) (a9 : w.cell? ⟨b, o + 1 + 8, none⟩ = some (.int .u8 x8)) (a10 : w.cell? ⟨b, o + 1 + 9, none⟩ = some (.int .u8 x9)) (a11 : w.cell? ⟨b, o + 1 + 10, none⟩ = some (.int .u8 x10)) (a12 : w.cell? ⟨b, o + 1 + 11, none⟩ = some (.int .u8 x11)) (a13 : w.cell? ⟨b, o + 1 + 12, none⟩ = some (.int .u8 x12)) (a14 : w.cell? ⟨b, o + 1 + 13, none⟩ = some (.int .u8 x13)) (a15 : w.cell? ⟨b, o + 1 + 14, none⟩ = some (.int .u8 x14)) (a16 : w.cell? ⟨b, o + 1 + 15, none⟩ = some (.int .u8 x15))
    (aT : w.cell? ⟨b, o + 17, none⟩ = some (.int .u8 T))
    (c0 : w.cell? ⟨b, o + (18 + T), none⟩ = some (.int .u8 y0)) (c1 : w.cell? ⟨b, o + (18 + T) + 1, none⟩ = some (.int .u8 y1)) (h0 : 0 ≤ y0) (h0' : y0 < 256) (h1 : 0 ≤ y1) (h1' : y1 < 256) (hN : y0 * 256 + y1 ≤ N) (hN' : N ≤ y0 * 256 + y1) (hge : 18 + T + 2 ≤ n) (hz : ((N : Int) == 0) = false) (hgood : ((N : Int) % 16 != 0) = false) (hne : ((n : Int) != ((18 + T : Nat) : Int) + 2 + (N : Int) + 1 + 16) = true) (hT : 0 < T) (hT' : T < 256) (hn : n ≤ 4096) (hcap : n ≤ c) :
    Calls Ybaf.prog 5 #[.slice (some ⟨b, o, none⟩) n c] w fun e w' => (∃ p, e = .returned (.tuple #[.agg #[.int .u8 x0, .int .u8 x1, .int .u8 x2, .int .u8 x3, .int .u8 x4, .int .u8 x5, .int .u8 x6, .int .u8 x7, .int .u8 x8, .int .u8 x9, .int .u8 x10, .int .u8 x11, .int .u8 x12, .int .u8 x13, .int .u8 x14, .int .u8 x15, .slice (some ⟨b, o + 18, none⟩) T T, .slice none 0 0], .agg #[.int .u8 0, .int .u8 0, .int .u8 0, .int .u8 0, .int .u8 0, .int .u8 0, .int .u8 0, .int .u8 0, .int .u8 0, .int .u8 0, .int .u8 0, .int .u8 0, .int .u8 0, .int .u8 0, .int .u8 0, .int .u8 0, .slice none 0 0, .slice none 0 0, .slice none 0 0], .iface 50 p])) ∧ Below w.heap.size w w' := by
  have hb0 : b < w.heap.size := World.block_lt_of_cell? _ _ a0
  have hb1 : b < w.heap.size + 1 := by omega
  have hb2 : b < w.heap.size + 1 + 1 := by omega
  have hb3 : b < w.heap.size + 1 + 1 + 1 := by omega
  have hmin : min (n - 1) 16 = 16 := Nat.min_eq_right (by omega)
  have hT0 : ((T : Int) == 0) = false := by simp; omega
  have hd : decide ((n : Int) < 18 + (T : Int)) = false := by simp; omega
  go_enter Ybaf.func5, Ybaf.ntmps5
  go_wp2_with (first | (go_at_call 8; refine (checkID_nil b o n c _ (by omega) ?_ (by omega)).mono ?_; rotate_right; (rintro e w1 ⟨rfl, rfl⟩); rotate_right; (go_simp)))
  go_region
  go_wp2_with fail
  refine (tail_3_at F b o n c (18 + T) N (18 + (T : Int)) (by omega) y0 y1 x0 x1 x2 x3 x4 x5 x6 x7 x8 x9 x10 x11 x12 x13 x14 x15 _ (by exact hF) ?_ ?_ h0 h0' h1 h1' hN hN' hge hz hgood hne hn hcap).mono ?_
  · go_simp
  · go_simp
  rintro e w1 ⟨rfl, o1, o2, o3, k, rfl⟩
  go_wp2_with fail
  go_region
  go_wp2
  refine bodyPost_ret (v := .tuple #[.agg #[.int .u8 x0, .int .u8 x1, .int .u8 x2, .int .u8 x3, .int .u8 x4, .int .u8 x5, .int .u8 x6, .int .u8 x7, .int .u8 x8, .int .u8 x9, .int .u8 x10, .int .u8 x11, .int .u8 x12, .int .u8 x13, .int .u8 x14, .int .u8 x15, .slice (some ⟨b, o + 18, none⟩) T T, .slice none 0 0], .agg #[.int .u8 0, .int .u8 0, .int .u8 0, .int .u8 0, .int .u8 0, .int .u8 0, .int .u8 0, .int .u8 0, .int .u8 0, .int .u8 0, .int .u8 0, .int .u8 0, .int .u8 0, .int .u8 0, .int .u8 0, .int .u8 0, .slice none 0 0, .slice none 0 0, .slice none 0 0], .iface 50 (.pointer (some ⟨w.heap.size + 7, 0, none⟩))]) ?_ rfl ⟨⟨_, rfl⟩, ?_⟩
  · simp [results, Ybaf.results5, go_sem]
  · repeat (first | exact Below.refl _ _ | apply below_drewN | apply Below.drew | refine Below.alloc ?_ (by simp; try omega) _)

set_option maxHeartbeats 2000000 in
theorem parse_8 (F : Interp) (b o n c T N : Nat) (y0 y1 z : Int) (x0 x1 x2 x3 x4 x5 x6 x7 x8 x9 x10 x11 x12 x13 x14 x15 : Int) (w : World) (hF : F.answers w.tape)
    (a0 : w.cell? ⟨b, o, none⟩ = some (.int .u8 16))
    (a1 : w.cell? ⟨b, o + 1, none⟩ = some (.int .u8 x0)) (a2 : w.cell? ⟨b, o + 1 + 1, none⟩ = some (.int .u8 x1)) (a3 : w.cell? ⟨b, o + 1 + 2, none⟩ = some (.int .u8 x2)) (a4 : w.cell? ⟨b, o + 1 + 3, none⟩ = some (.int .u8 x3)) (a5 : w.cell? ⟨b, o + 1 + 4, none⟩ = some (.int .u8 x4)) (a6 : w.cell? ⟨b, o + 1 + 5, none⟩ = some (.int .u8 x5)) (a7 : w.cell? ⟨b, o + 1 + 6, none⟩ = some (.int .u8 x6)) (a8 : w.cell? ⟨b, o + 1 + 7, none⟩ = some (.int .u8 x7)) (a9 : w.cell? ⟨b, o + 1 + 8, none⟩ = some (.int .u8 x8)) (a10 : w.cell? ⟨b, o + 1 + 9, none⟩ = some (.int .u8 x9)) (a11 : w.cell? ⟨b, o + 1 + 10, none⟩ = some (.int .u8 x10)) (a12 : w.cell? ⟨b, o + 1 + 11, none⟩ = some (.int .u8 x11)) (a13 : w.cell? ⟨b, o + 1 + 12, none⟩ = some (.int .u8 x12)) (a14 : w.cell? ⟨b, o + 1 + 13, none⟩ = some (.int .u8 x13)) (a15 : w.cell? ⟨b, o + 1 + 14, none⟩ = some (.int .u8 x14)) (a16 : w.cell? ⟨b, o + 1 + 15, none⟩ = some (.int .u8 x15))
    (aT : w.cell? ⟨b, o + 17, none⟩ = some (.int .u8 T))
    (c0 : w.cell? ⟨b, o + (18 + T), none⟩ = some (.int .u8 y0)) (c1 : w.cell? ⟨b, o + (18 + T) + 1, none⟩ = some (.int .u8 y1)) (c2 : w.cell? ⟨b, o + (18 + T + 2 + N), none⟩ = some (.int .u8 z)) (h0 : 0 ≤ y0) (h0' : y0 < 256) (h1 : 0 ≤ y1) (h1' : y1 < 256) (hN : y0 * 256 + y1 ≤ N) (hN' : N ≤ y0 * 256 + y1) (hlen : n ≤ 18 + T + 2 + N + 17) (hlen' : 18 + T + 2 + N + 17 ≤ n) (hz : ((N : Int) == 0) = false) (hgood : ((N : Int) % 16 != 0) = false) (hze : (z != 16) = true) (hT : 0 < T) (hT' : T < 256) (hn : n ≤ 4096) (hcap : n ≤ c) :
    Calls Ybaf.prog 5 #[.slice (some ⟨b, o, none⟩) n c] w fun e w' => (∃ p, e = .returned (.tuple #[.agg #[.int .u8 x0, .int .u8 x1, .int .u8 x2, .int .u8 x3, .int .u8 x4, .int .u8 x5, .int .u8 x6, .int .u8 x7, .int .u8 x8, .int .u8 x9, .int .u8 x10, .int .u8 x11, .int .u8 x12, .int .u8 x13, .int .u8 x14, .int .u8 x15, .slice (some ⟨b, o + 18, none⟩) T T, .slice none 0 0], .agg #[.int .u8 0, .int .u8 0, .int .u8 0, .int .u8 0, .int .u8 0, .int .u8 0, .int .u8 0, .int .u8 0, .int .u8 0, .int .u8 0, .int .u8 0, .int .u8 0, .int .u8 0, .int .u8 0, .int .u8 0, .int .u8 0, .slice none 0 0, .slice none 0 0, .slice none 0 0], .iface 50 p])) ∧ Below w.heap.size w w' := by
  have hb0 : b < w.heap.size := World.block_lt_of_cell? _ _ a0
  have hb1 : b < w.heap.size + 1 := by omega
  have hb2 : b < w.heap.size + 1 + 1 := by omega
  have hb3 : b < w.heap.size + 1 + 1 + 1 := by omega
  have hmin : min (n - 1) 16 = 16 := Nat.min_eq_right (by omega)
  have hT0 : ((T : Int) == 0) = false := by simp; omega
  have hd : decide ((n : Int) < 18 + (T : Int)) = false := by simp; omega
  go_enter Ybaf.func5, Ybaf.ntmps5
  go_wp2_with (first | (go_at_call 8; refine (checkID_nil b o n c _ (by omega) ?_ (by omega)).mono ?_; rotate_right; (rintro e w1 ⟨rfl, rfl⟩); rotate_right; (go_simp)))
  go_region
  go_wp2_with fail
  refine (tail_4_at F b o n c (18 + T) N (18 + (T : Int)) (by omega) y0 y1 z x0 x1 x2 x3 x4 x5 x6 x7 x8 x9 x10 x11 x12 x13 x14 x15 _ (by exact hF) ?_ ?_ ?_ h0 h0' h1 h1' hN hN' hlen hlen' hz hgood hze hn hcap).mono ?_
  · go_simp
  · go_simp
  · go_simp
  rintro e w1 ⟨rfl, o1, o2, o3, k, rfl⟩
  go_wp2_with fail
  go_region
  go_wp2
  refine bodyPost_ret (v := .tuple #[.agg #[.int .u8 x0, .int .u8 x1, .int .u8 x2, .int .u8 x3, .int .u8 x4, .int .u8 x5, .int .u8 x6, .int .u8 x7, .int .u8 x8, .int .u8 x9, .int .u8 x10, .int .u8 x11, .int .u8 x12, .int .u8 x13, .int .u8 x14, .int .u8 x15, .slice (some ⟨b, o + 18, none⟩) T T, .slice none 0 0], .agg #[.int .u8 0, .int .u8 0, .int .u8 0, .int .u8 0, .int .u8 0, .int .u8 0, .int .u8 0, .int .u8 0, .int .u8 0, .int .u8 0, .int .u8 0, .int .u8 0, .int .u8 0, .int .u8 0, .int .u8 0, .int .u8 0, .slice none 0 0, .slice none 0 0, .slice none 0 0], .iface 50 (.pointer (some ⟨w.heap.size + 7, 0, none⟩))]) ?_ rfl ⟨⟨_, rfl⟩, ?_⟩
  · simp [results, Ybaf.results5, go_sem]
  · repeat (first | exact Below.refl _ _ | apply below_drewN | apply Below.drew | refine Below.alloc ?_ (by simp; try omega) _)
end Go.Proofs.YbulkyliFmt
