/-
  The walk of LawS1230BAccept.
-/
import Derived.Test.YbulkyliFmtBad3
import Derived.Test.YbulkyliFmtZz
import Derived.Test.YbulkyliFmtParse
import Derived.WalkSpells
import Derived.OpenShut
namespace Go.Proofs.YbulkyliFmt
open Go.RowKit Go.Extern.Stop Go.Stop Go.Extern
theorem setCell_drewN (w : World) (k : Nat) (a : Addr) (v : Value) : (w.drewN k).setCell a v = (w.setCell a v).drewN k := rfl
attribute [local simp] rd_any wr_16 wr_18 wr_19
attribute [local go_sem] cellOr Value.oneCell' rd_run0 rd_run1 rd_run2 rd_run16 rd_run18 rd_run19 wr_run rowLen_drewN rowLen_drew rowLen_at rowLen_past putRow_at putRow_past putRow_drew putRow_drewN alloc_drewN eq23 setCell_drewN Builtin.copy_ Builtin.lenOf Builtin.firstCells

theorem acc_far (a : Option Addr) (n c : Nat) (w : World) (hn : (4096 : Int) < n) :
    Calls Ybaf.prog 3 #[.slice a n c] w fun e w' => e = .returned (.bool true) ∧ Below w.heap.size w w' := by
  go_enter Ybaf.func3, Ybaf.ntmps3
  go_wp2
  go_ret
  exact ⟨rfl, Below.refl _ _⟩

set_option maxHeartbeats 1000000 in
theorem acc_A1 (a : Option Addr) (n c : Nat) (w : World) (hn : (n : Int) < 18)
    (CP : Hid (Calls Ybaf.prog 5 #[.slice a n c] w fun e w' => (∃ p, e = .returned (.tuple #[.agg #[.int .u8 0, .int .u8 0, .int .u8 0, .int .u8 0, .int .u8 0, .int .u8 0, .int .u8 0, .int .u8 0, .int .u8 0, .int .u8 0, .int .u8 0, .int .u8 0, .int .u8 0, .int .u8 0, .int .u8 0, .int .u8 0, .slice none 0 0, .slice none 0 0], .agg #[.int .u8 0, .int .u8 0, .int .u8 0, .int .u8 0, .int .u8 0, .int .u8 0, .int .u8 0, .int .u8 0, .int .u8 0, .int .u8 0, .int .u8 0, .int .u8 0, .int .u8 0, .int .u8 0, .int .u8 0, .int .u8 0, .slice none 0 0, .slice none 0 0, .slice none 0 0], .iface 50 p])) ∧ Below w.heap.size w w'))
    (CZ : Hid (∀ W, Below w.heap.size w W → Calls Ybaf.prog 6 #[.slice a n c] W fun e w' => e = .returned (.tuple #[.bool false, .int .i64 0, .int .i64 0]) ∧ ∃ k, w' = W.drewN k)) :
    Calls Ybaf.prog 3 #[.slice a n c] w fun e w' => e = .returned (.bool true) ∧ Below w.heap.size w w' := by
  have hnl : ¬ (4096 : Int) < n := by omega
  have S24 := fun (a : Option Addr) (n c : Nat) (w : World) => run_neq_slice_nil_any (P := Ybaf.prog) w 24 _ a n c 0 0 Ybaf.underlying24
  have S22 := fun (a : Option Addr) (n c : Nat) (w : World) => run_neq_slice_nil_any (P := Ybaf.prog) w 22 _ a n c 0 0 Ybaf.underlying22
  have E22 := fun (a : Option Addr) (n c : Nat) (w : World) => Lib.run_eql_slice_nil (P := Ybaf.prog) w 22 _ a n c 0 0 Ybaf.underlying22
  go_enter Ybaf.func3, Ybaf.ntmps3
  go_wp2_with fail
  refine CP.out.mono ?_
  rintro e w1 ⟨⟨p, rfl⟩, bel⟩
  go_wp2_with fail
  refine (CZ.out _ ?_).mono ?_
  · exact (bel.alloc bel.size _).alloc (by have := bel.size; simp; omega) _
  rintro e w2 ⟨rfl, k, rfl⟩
  go_wp2
  go_ret
  refine ⟨rfl, ?_⟩
  repeat (first | exact bel | apply below_drewN | apply Below.drew | refine Below.alloc ?_ (by have := bel.size; simp; try omega) _)

set_option maxHeartbeats 1000000 in
theorem acc_A2 (b o n c : Nat) (z : Int) (w : World) (hn : 18 ≤ n) (hm : n ≤ 4096) (a0 : w.cell? ⟨b, o, none⟩ = some (.int .u8 z)) (hz : (z != 16) = true)
    (CP : Hid (Calls Ybaf.prog 5 #[.slice (some ⟨b, o, none⟩) n c] w fun e w' => (∃ p, e = .returned (.tuple #[.agg #[.int .u8 0, .int .u8 0, .int .u8 0, .int .u8 0, .int .u8 0, .int .u8 0, .int .u8 0, .int .u8 0, .int .u8 0, .int .u8 0, .int .u8 0, .int .u8 0, .int .u8 0, .int .u8 0, .int .u8 0, .int .u8 0, .slice none 0 0, .slice none 0 0], .agg #[.int .u8 0, .int .u8 0, .int .u8 0, .int .u8 0, .int .u8 0, .int .u8 0, .int .u8 0, .int .u8 0, .int .u8 0, .int .u8 0, .int .u8 0, .int .u8 0, .int .u8 0, .int .u8 0, .int .u8 0, .int .u8 0, .slice none 0 0, .slice none 0 0, .slice none 0 0], .iface 50 p])) ∧ Below w.heap.size w w'))
    (CZ : Hid (∀ W, Below w.heap.size w W → Calls Ybaf.prog 6 #[.slice (some ⟨b, o, none⟩) n c] W fun e w' => e = .returned (.tuple #[.bool false, .int .i64 0, .int .i64 0]) ∧ ∃ k, w' = W.drewN k)) :
    Calls Ybaf.prog 3 #[.slice (some ⟨b, o, none⟩) n c] w fun e w' => e = .returned (.bool true) ∧ Below w.heap.size w w' := by
  have hnl : ¬ (4096 : Int) < n := by omega
  have hns : ¬ (n : Int) < 18 := by omega
  have A0 : Hid (w.cell? ⟨b, o, none⟩ = some (.int .u8 z)) := a0
  clear a0
  have S24 := fun (a : Option Addr) (n c : Nat) (w : World) => run_neq_slice_nil_any (P := Ybaf.prog) w 24 _ a n c 0 0 Ybaf.underlying24
  have S22 := fun (a : Option Addr) (n c : Nat) (w : World) => run_neq_slice_nil_any (P := Ybaf.prog) w 22 _ a n c 0 0 Ybaf.underlying22
  have E22 := fun (a : Option Addr) (n c : Nat) (w : World) => Lib.run_eql_slice_nil (P := Ybaf.prog) w 22 _ a n c 0 0 Ybaf.underlying22
  go_enter Ybaf.func3, Ybaf.ntmps3
  go_wp2_with fail
  refine CP.out.mono ?_
  rintro e w1 ⟨⟨p, rfl⟩, bel⟩
  have a0 := cell_later bel A0.out
  have hb0 : b < w1.heap.size := World.block_lt_of_cell? _ _ a0
  have hb1 : b < w1.heap.size + 1 := by omega
  go_wp2_with fail
  refine (CZ.out _ ?_).mono ?_
  · exact (bel.alloc bel.size _).alloc (by have := bel.size; simp; omega) _
  rintro e w2 ⟨rfl, k, rfl⟩
  go_wp2
  go_ret
  refine ⟨rfl, ?_⟩
  repeat (first | exact bel | apply below_drewN | apply Below.drew | refine Below.alloc ?_ (by have := bel.size; simp; try omega) _)

set_option maxHeartbeats 2000000 in
theorem acc_B (b o n c : Nat) (x0 x1 x2 x3 x4 x5 x6 x7 x8 x9 x10 x11 x12 x13 x14 x15 : Int) (ta : Option Addr) (tn tc : Nat) (w : World) (hn : 18 ≤ n) (hm : n ≤ 4096) (hcap : n ≤ c) (a0 : w.cell? ⟨b, o, none⟩ = some (.int .u8 16))
    (a1 : w.cell? ⟨b, o + 1, none⟩ = some (.int .u8 x0)) (a2 : w.cell? ⟨b, o + 1 + 1, none⟩ = some (.int .u8 x1)) (a3 : w.cell? ⟨b, o + 1 + 2, none⟩ = some (.int .u8 x2)) (a4 : w.cell? ⟨b, o + 1 + 3, none⟩ = some (.int .u8 x3)) (a5 : w.cell? ⟨b, o + 1 + 4, none⟩ = some (.int .u8 x4)) (a6 : w.cell? ⟨b, o + 1 + 5, none⟩ = some (.int .u8 x5)) (a7 : w.cell? ⟨b, o + 1 + 6, none⟩ = some (.int .u8 x6)) (a8 : w.cell? ⟨b, o + 1 + 7, none⟩ = some (.int .u8 x7)) (a9 : w.cell? ⟨b, o + 1 + 8, none⟩ = some (.int .u8 x8)) (a10 : w.cell? ⟨b, o + 1 + 9, none⟩ = some (.int .u8 x9)) (a11 : w.cell? ⟨b, o + 1 + 10, none⟩ = some (.int .u8 x10)) (a12 : w.cell? ⟨b, o + 1 + 11, none⟩ = some (.int .u8 x11)) (a13 : w.cell? ⟨b, o + 1 + 12, none⟩ = some (.int .u8 x12)) (a14 : w.cell? ⟨b, o + 1 + 13, none⟩ = some (.int .u8 x13)) (a15 : w.cell? ⟨b, o + 1 + 14, none⟩ = some (.int .u8 x14)) (a16 : w.cell? ⟨b, o + 1 + 15, none⟩ = some (.int .u8 x15))
    (CP : Hid (Calls Ybaf.prog 5 #[.slice (some ⟨b, o, none⟩) n c] w fun e w' => (∃ p, e = .returned (.tuple #[.agg #[.int .u8 x0, .int .u8 x1, .int .u8 x2, .int .u8 x3, .int .u8 x4, .int .u8 x5, .int .u8 x6, .int .u8 x7, .int .u8 x8, .int .u8 x9, .int .u8 x10, .int .u8 x11, .int .u8 x12, .int .u8 x13, .int .u8 x14, .int .u8 x15, .slice ta tn tc, .slice none 0 0], .agg #[.int .u8 0, .int .u8 0, .int .u8 0, .int .u8 0, .int .u8 0, .int .u8 0, .int .u8 0, .int .u8 0, .int .u8 0, .int .u8 0, .int .u8 0, .int .u8 0, .int .u8 0, .int .u8 0, .int .u8 0, .int .u8 0, .slice none 0 0, .slice none 0 0, .slice none 0 0], .iface 50 p])) ∧ Below w.heap.size w w'))
    (CZ : Hid (∀ W, Below w.heap.size w W → Calls Ybaf.prog 6 #[.slice (some ⟨b, o, none⟩) n c] W fun e w' => e = .returned (.tuple #[.bool false, .int .i64 0, .int .i64 0]) ∧ ∃ k, w' = W.drewN k)) :
    Calls Ybaf.prog 3 #[.slice (some ⟨b, o, none⟩) n c] w fun e w' => e = .returned (.bool true) ∧ Below w.heap.size w w' := by
  have hnl : ¬ (4096 : Int) < n := by omega
  have hns : ¬ (n : Int) < 18 := by omega
  have S24 := fun (a : Option Addr) (n c : Nat) (w : World) => run_neq_slice_nil_any (P := Ybaf.prog) w 24 _ a n c 0 0 Ybaf.underlying24
  have S22 := fun (a : Option Addr) (n c : Nat) (w : World) => run_neq_slice_nil_any (P := Ybaf.prog) w 22 _ a n c 0 0 Ybaf.underlying22
  have E22 := fun (a : Option Addr) (n c : Nat) (w : World) => Lib.run_eql_slice_nil (P := Ybaf.prog) w 22 _ a n c 0 0 Ybaf.underlying22
  go_enter Ybaf.func3, Ybaf.ntmps3
  go_wp2_with fail
  refine CP.out.mono ?_
  rintro e w1 ⟨⟨p, rfl⟩, bel⟩
  have e0 := cell_later bel a0
  have e1 := cell_later bel a1
  have e2 := cell_later bel a2
  have e3 := cell_later bel a3
  have e4 := cell_later bel a4
  have e5 := cell_later bel a5
  have e6 := cell_later bel a6
  have e7 := cell_later bel a7
  have e8 := cell_later bel a8
  have e9 := cell_later bel a9
  have e10 := cell_later bel a10
  have e11 := cell_later bel a11
  have e12 := cell_later bel a12
  have e13 := cell_later bel a13
  have e14 := cell_later bel a14
  have e15 := cell_later bel a15
  have e16 := cell_later bel a16
  clear a0 a1 a2 a3 a4 a5 a6 a7 a8 a9 a10 a11 a12 a13 a14 a15 a16
  have hb0 : b < w1.heap.size := World.block_lt_of_cell? _ _ e0
  have hb1 : b < w1.heap.size + 1 := by omega
  have hb2 : b < w1.heap.size + 1 + 1 := by omega
  have hc17 : (17 : Int) ≤ c := by omega
  have hc17' : 17 ≤ c := by omega
  have hc1 : ¬ c = 1 := by omega
  go_wp2_with fail
  refine (CZ.out _ ?_).mono ?_
  · exact (bel.alloc bel.size _).alloc (by have := bel.size; simp; omega) _
  rintro e w2 ⟨rfl, k, rfl⟩
  go_wp2
  go_region
  go_wp2
  go_ret
  exact ⟨rfl, below_drewN (((bel.alloc bel.size _).alloc (by have := bel.size; simp; omega) _).alloc (by have := bel.size; simp; omega) _) _⟩

set_option maxHeartbeats 4000000 in
set_option maxRecDepth 100000 in
theorem acc_C (b o n c T N : Nat) (x0 x1 x2 x3 x4 x5 x6 x7 x8 x9 x10 x11 x12 x13 x14 x15 : Int) (zs : List Int) (w : World) (hm : n ≤ 4096) (hcap : n ≤ c) (a0 : w.cell? ⟨b, o, none⟩ = some (.int .u8 16))
    (a1 : w.cell? ⟨b, o + 1, none⟩ = some (.int .u8 x0)) (a2 : w.cell? ⟨b, o + 1 + 1, none⟩ = some (.int .u8 x1)) (a3 : w.cell? ⟨b, o + 1 + 2, none⟩ = some (.int .u8 x2)) (a4 : w.cell? ⟨b, o + 1 + 3, none⟩ = some (.int .u8 x3)) (a5 : w.cell? ⟨b, o + 1 + 4, none⟩ = some (.int .u8 x4)) (a6 : w.cell? ⟨b, o + 1 + 5, none⟩ = some (.int .u8 x5)) (a7 : w.cell? ⟨b, o + 1 + 6, none⟩ = some (.int .u8 x6)) (a8 : w.cell? ⟨b, o + 1 + 7, none⟩ = some (.int .u8 x7)) (a9 : w.cell? ⟨b, o + 1 + 8, none⟩ = some (.int .u8 x8)) (a10 : w.cell? ⟨b, o + 1 + 9, none⟩ = some (.int .u8 x9)) (a11 : w.cell? ⟨b, o + 1 + 10, none⟩ = some (.int .u8 x10)) (a12 : w.cell? ⟨b, o + 1 + 11, none⟩ = some (.int .u8 x11)) (a13 : w.cell? ⟨b, o + 1 + 12, none⟩ = some (.int .u8 x12)) (a14 : w.cell? ⟨b, o + 1 + 13, none⟩ = some (.int .u8 x13)) (a15 : w.cell? ⟨b, o + 1 + 14, none⟩ = some (.int .u8 x14)) (a16 : w.cell? ⟨b, o + 1 + 15, none⟩ = some (.int .u8 x15))
    (hzs : Hid (n ≤ zs.length ∧ ∀ i, i < n → w.cell? ⟨b, o + i, none⟩ = some (.int .u8 (zs.getD i 0))))
    (hT : 0 < T) (hT' : T < 256) (hN1 : 0 < N) (hN1' : N < 65536) (hlen : n ≤ 18 + T + 2 + N + 17) (hlen' : 18 + T + 2 + N + 17 ≤ n)
    (CP : Hid (Calls Ybaf.prog 5 #[.slice (some ⟨b, o, none⟩) n c] w fun e w' => e = .returned (.tuple #[.agg #[.int .u8 x0, .int .u8 x1, .int .u8 x2, .int .u8 x3, .int .u8 x4, .int .u8 x5, .int .u8 x6, .int .u8 x7, .int .u8 x8, .int .u8 x9, .int .u8 x10, .int .u8 x11, .int .u8 x12, .int .u8 x13, .int .u8 x14, .int .u8 x15, .slice (some ⟨b, o + 18, none⟩) T T, .slice none 0 0], .agg #[.int .u8 x0, .int .u8 x1, .int .u8 x2, .int .u8 x3, .int .u8 x4, .int .u8 x5, .int .u8 x6, .int .u8 x7, .int .u8 x8, .int .u8 x9, .int .u8 x10, .int .u8 x11, .int .u8 x12, .int .u8 x13, .int .u8 x14, .int .u8 x15, .slice (some ⟨b, o, none⟩) (18 + T + 2 + N + 1) (18 + T + 2 + N + 1), .slice (some ⟨b, o + (18 + T + 2), none⟩) N N, .slice (some ⟨b, o + (18 + T + 2 + N + 1), none⟩) (n - (18 + T + 2 + N + 1)) (c - (18 + T + 2 + N + 1))], .nilIface]) ∧ Below w.heap.size w w'))
    (CZ : Hid (∀ W, Below w.heap.size w W → Calls Ybaf.prog 6 #[.slice (some ⟨b, o, none⟩) n c] W fun e w' => e = .returned (.tuple #[.bool true, .int .i64 T, .int .i64 N]) ∧ ∃ k, w' = W.drewN k)) :
    Calls Ybaf.prog 3 #[.slice (some ⟨b, o, none⟩) n c] w fun e w' => e = .returned (.bool true) ∧ Below w.heap.size w w' := by
  have hnl : ¬ (4096 : Int) < n := by omega
  have S24 := fun (a : Option Addr) (n c : Nat) (w : World) => run_neq_slice_nil_any (P := Ybaf.prog) w 24 _ a n c 0 0 Ybaf.underlying24
  have S22 := fun (a : Option Addr) (n c : Nat) (w : World) => run_neq_slice_nil_any (P := Ybaf.prog) w 22 _ a n c 0 0 Ybaf.underlying22
  have E22 := fun (a : Option Addr) (n c : Nat) (w : World) => Lib.run_eql_slice_nil (P := Ybaf.prog) w 22 _ a n c 0 0 Ybaf.underlying22
  go_enter Ybaf.func3, Ybaf.ntmps3
  go_wp2_with fail
  refine CP.out.mono ?_
  rintro e w1 ⟨rfl, bel⟩
  have e0 := cell_later bel a0
  have e1 := cell_later bel a1
  have e2 := cell_later bel a2
  have e3 := cell_later bel a3
  have e4 := cell_later bel a4
  have e5 := cell_later bel a5
  have e6 := cell_later bel a6
  have e7 := cell_later bel a7
  have e8 := cell_later bel a8
  have e9 := cell_later bel a9
  have e10 := cell_later bel a10
  have e11 := cell_later bel a11
  have e12 := cell_later bel a12
  have e13 := cell_later bel a13
  have e14 := cell_later bel a14
  have e15 := cell_later bel a15
  have e16 := cell_later bel a16
  clear a0 a1 a2 a3 a4 a5 a6 a7 a8 a9 a10 a11 a12 a13 a14 a15 a16
  have hb0 : b < w1.heap.size := World.block_lt_of_cell? _ _ e0
  have hb1 : b < w1.heap.size + 1 := by omega
  have hb2 : b < w1.heap.size + 1 + 1 := by omega
  have hc17 : (17 : Int) ≤ c := by omega
  have hc17' : 17 ≤ c := by omega
  have hc1 : ¬ c = 1 := by omega
  have QE : Hid (∀ O M C1 C2 A B C k, o ≤ O → O + M ≤ o + n → Calls Ybaf.prog 7 #[.slice (some ⟨b, O, none⟩) M C1, .slice (some ⟨b, O, none⟩) M C2] ((((w1.alloc A).alloc B).alloc C).drewN k) fun e w' => e = .returned (.bool true) ∧ w' = (((w1.alloc A).alloc B).alloc C).drewN k) := by
    intro O M C1 C2 A B C k hO hM
    have hbe : Below w.heap.size w ((((w1.alloc A).alloc B).alloc C).drewN k) := below_drewN (((bel.alloc bel.size _).alloc (by have := bel.size; simp; omega) _).alloc (by have := bel.size; simp; omega) _) _
    have hc : ∀ i, i < M → ((((w1.alloc A).alloc B).alloc C).drewN k).cell? ⟨b, O + i, none⟩ = some (.int .u8 (((zs.drop (O - o)).take M).getD i 0)) := by
      intro i hi
      have := cell_later hbe (hzs.out.2 (O - o + i) (by omega))
      rw [show o + (O - o + i) = O + i from by omega] at this
      rw [this]
      congr 2
      simp only [List.getD, List.getElem?_take_of_lt hi, List.getElem?_drop]
    exact equal_same _ _ _ _ _ _ _ _ _ (by have := hzs.out.1; simp; omega) hc hc
  go_wp2_with fail
  refine (CZ.out _ ?_).mono ?_
  · exact (bel.alloc bel.size _).alloc (by have := bel.size; simp; omega) _
  rintro e w2 ⟨rfl, k, rfl⟩
  go_wp2
  go_region
  go_wp2
  have f1 : (18 : Int) + (T : Int) ≤ (c : Int) := by omega
  have f1' : (18 : Int) ≤ (18 : Int) + (T : Int) := by omega
  have f2 : (18 : Int) + (T : Int) + 2 + (N : Int) + 1 ≤ (c : Int) := by omega
  have f3 : (18 : Int) + (T : Int) + 2 + (N : Int) ≤ (c : Int) := by omega
  have f4 : (18 : Int) + (T : Int) + 2 + (N : Int) + 1 ≤ (n : Int) := by omega
  have g1 : ¬ c = 18 := by omega
  have g2 : ¬ c = 18 + T + 2 := by omega
  have g3 : ¬ c = 18 + T + 2 + N + 1 := by omega
  go_quiet ((go_at_call 7; exact (QE.out _ _ _ _ _ _ _ _ (by omega) (by omega)).mono (fun _ _ h => ⟨h.1, _, h.2⟩)))
  go_wp2
  go_ret
  exact ⟨rfl, below_drewN (below_drewN (((bel.alloc bel.size _).alloc (by have := bel.size; simp; omega) _).alloc (by have := bel.size; simp; omega) _) _) _⟩

/-- EVERY SLICE. -/
theorem acc_any (F : Interp) (a : Option Addr) (n c : Nat) (zs : List Int) (w : World) (hF : F.answers w.tape)
    (hr : (a = none ∧ n = 0 ∧ c = 0) ∨ ∃ x, a = some x ∧ n ≤ c ∧ c ≤ maxLen ∧ zs.length = c ∧ (∀ i, i < zs.length → w.cell? (x.add i) = some (.int .u8 (zs.getD i 0))) ∧ ∀ z ∈ zs, (Lit.int .u8 z).wf = true) :
    Calls Ybaf.prog 3 #[.slice a n c] w fun e w' => e = .returned (.bool true) ∧ Below w.heap.size w w' := by
  by_cases hm : (4096 : Int) < n
  · exact acc_far a n c w hm
  by_cases h18 : (n : Int) < 18
  · exact acc_A1 a n c w h18 (parse_1 F a n c w hF h18) (fun W _ => zz1 a n c W h18)
  rcases hr with ⟨_, h0, _⟩ | ⟨x, rfl, hcap, hcm, hzl, hcell, hwf⟩
  · omega
  obtain ⟨b, o, rfl, hc⟩ := ints_at hcell (by omega)
  have hn : 18 ≤ n := by omega
  have hm' : n ≤ 4096 := by omega
  unfold maxLen at hcm
  have bd : ∀ i, i < n → 0 ≤ zs.getD i 0 ∧ zs.getD i 0 < 256 := by
    intro i hi
    have : zs.getD i 0 ∈ zs := by
      have hl : i < zs.length := by omega
      simp [List.getD, List.getElem?_eq_getElem hl]
    have := bounds_u8 (hwf _ this)
    omega
  have hz : ∀ i, i < n → w.cell? ⟨b, o + i, none⟩ = some (.int .u8 (zs.getD i 0)) := fun i hi => hc i (by omega)
  have a0 : w.cell? ⟨b, o, none⟩ = some (.int .u8 (zs.getD 0 0)) := hz 0 (by omega)
  by_cases h16 : zs.getD 0 0 = 16
  rotate_left
  · have hne : (zs.getD 0 0 != 16) = true := by simpa using h16
    exact acc_A2 b o n c _ w hn hm' a0 hne (parse_2 F b o n c _ w hF hn hm' a0 hne) (fun W hb => zz2 b o n c _ W hn hm' (cell_later hb a0) hne)
  rw [h16] at a0
  have a1 : w.cell? ⟨b, o + 1, none⟩ = some (.int .u8 (zs.getD 1 0)) := by have := hz 1 (by omega); rwa [show o + 1 = o + 1 from by omega] at this
  have a2 : w.cell? ⟨b, o + 1 + 1, none⟩ = some (.int .u8 (zs.getD 2 0)) := by have := hz 2 (by omega); rwa [show o + 2 = o + 1 + 1 from by omega] at this
  have a3 : w.cell? ⟨b, o + 1 + 2, none⟩ = some (.int .u8 (zs.getD 3 0)) := by have := hz 3 (by omega); rwa [show o + 3 = o + 1 + 2 from by omega] at this
  have a4 : w.cell? ⟨b, o + 1 + 3, none⟩ = some (.int .u8 (zs.getD 4 0)) := by have := hz 4 (by omega); rwa [show o + 4 = o + 1 + 3 from by omega] at this
  have a5 : w.cell? ⟨b, o + 1 + 4, none⟩ = some (.int .u8 (zs.getD 5 0)) := by have := hz 5 (by omega); rwa [show o + 5 = o + 1 + 4 from by omega] at this
  have a6 : w.cell? ⟨b, o + 1 + 5, none⟩ = some (.int .u8 (zs.getD 6 0)) := by have := hz 6 (by omega); rwa [show o + 6 = o + 1 + 5 from by omega] at this
  have a7 : w.cell? ⟨b, o + 1 + 6, none⟩ = some (.int .u8 (zs.getD 7 0)) := by have := hz 7 (by omega); rwa [show o + 7 = o + 1 + 6 from by omega] at this
  have a8 : w.cell? ⟨b, o + 1 + 7, none⟩ = some (.int .u8 (zs.getD 8 0)) := by have := hz 8 (by omega); rwa [show o + 8 = o + 1 + 7 from by omega] at this
  have a9 : w.cell? ⟨b, o + 1 + 8, none⟩ = some (.int .u8 (zs.getD 9 0)) := by have := hz 9 (by omega); rwa [show o + 9 = o + 1 + 8 from by omega] at this
  have a10 : w.cell? ⟨b, o + 1 + 9, none⟩ = some (.int .u8 (zs.getD 10 0)) := by have := hz 10 (by omega); rwa [show o + 10 = o + 1 + 9 from by omega] at this
  have a11 : w.cell? ⟨b, o + 1 + 10, none⟩ = some (.int .u8 (zs.getD 11 0)) := by have := hz 11 (by omega); rwa [show o + 11 = o + 1 + 10 from by omega] at this
  have a12 : w.cell? ⟨b, o + 1 + 11, none⟩ = some (.int .u8 (zs.getD 12 0)) := by have := hz 12 (by omega); rwa [show o + 12 = o + 1 + 11 from by omega] at this
  have a13 : w.cell? ⟨b, o + 1 + 12, none⟩ = some (.int .u8 (zs.getD 13 0)) := by have := hz 13 (by omega); rwa [show o + 13 = o + 1 + 12 from by omega] at this
  have a14 : w.cell? ⟨b, o + 1 + 13, none⟩ = some (.int .u8 (zs.getD 14 0)) := by have := hz 14 (by omega); rwa [show o + 14 = o + 1 + 13 from by omega] at this
  have a15 : w.cell? ⟨b, o + 1 + 14, none⟩ = some (.int .u8 (zs.getD 15 0)) := by have := hz 15 (by omega); rwa [show o + 15 = o + 1 + 14 from by omega] at this
  have a16 : w.cell? ⟨b, o + 1 + 15, none⟩ = some (.int .u8 (zs.getD 16 0)) := by have := hz 16 (by omega); rwa [show o + 16 = o + 1 + 15 from by omega] at this
  obtain ⟨T, hTe⟩ : ∃ T : Nat, zs.getD 17 0 = (T : Int) := ⟨(zs.getD 17 0).toNat, by have := (bd 17 (by omega)).1; omega⟩
  have hT' : T < 256 := by have := (bd 17 (by omega)).2; omega
  have aT : w.cell? ⟨b, o + 17, none⟩ = some (.int .u8 T) := by rw [← hTe]; exact hz 17 (by omega)
  have XS : ∀ (W : World), Below w.heap.size w W → W.cell? ⟨b, o, none⟩ = some (.int .u8 16) ∧ W.cell? ⟨b, o + 17, none⟩ = some (.int .u8 T) := fun W hb => ⟨cell_later hb a0, cell_later hb aT⟩
  by_cases hT0 : T = 0
  · subst hT0
    exact acc_B b o n c _ _ _ _ _ _ _ _ _ _ _ _ _ _ _ _ none 0 0 w hn hm' hcap a0 a1 a2 a3 a4 a5 a6 a7 a8 a9 a10 a11 a12 a13 a14 a15 a16 (parse_34 F b o n c 0 _ _ _ _ _ _ _ _ _ _ _ _ _ _ _ _ w hF a0 a1 a2 a3 a4 a5 a6 a7 a8 a9 a10 a11 a12 a13 a14 a15 a16 aT hn hm' hcap (by omega) (.inl rfl)) (fun W hb => zz3 b o n c W hn hm' (XS W hb).1 (XS W hb).2)
  have hT : 0 < T := by omega
  have hTb : ((T : Int) == 0) = false := by simp; omega
  by_cases hnT : n < 18 + T
  · exact acc_B b o n c _ _ _ _ _ _ _ _ _ _ _ _ _ _ _ _ none 0 0 w hn hm' hcap a0 a1 a2 a3 a4 a5 a6 a7 a8 a9 a10 a11 a12 a13 a14 a15 a16 (parse_34 F b o n c T _ _ _ _ _ _ _ _ _ _ _ _ _ _ _ _ w hF a0 a1 a2 a3 a4 a5 a6 a7 a8 a9 a10 a11 a12 a13 a14 a15 a16 aT hn hm' hcap hT' (.inr ⟨hTb, by simp; omega⟩)) (fun W hb => zz45 b o n c T W hn hm' (XS W hb).1 (XS W hb).2 hT hT' (by omega))
  by_cases hnT2 : n < 18 + T + 2
  · exact acc_B b o n c _ _ _ _ _ _ _ _ _ _ _ _ _ _ _ _ _ _ _ w hn hm' hcap a0 a1 a2 a3 a4 a5 a6 a7 a8 a9 a10 a11 a12 a13 a14 a15 a16 (parse_5 F b o n c T _ _ _ _ _ _ _ _ _ _ _ _ _ _ _ _ w hF a0 a1 a2 a3 a4 a5 a6 a7 a8 a9 a10 a11 a12 a13 a14 a15 a16 aT (by omega) hnT2 hT hT' hm' hcap) (fun W hb => zz45 b o n c T W hn hm' (XS W hb).1 (XS W hb).2 hT hT' hnT2)
  have c0 : w.cell? ⟨b, o + (18 + T), none⟩ = some (.int .u8 (zs.getD (18 + T) 0)) := hz (18 + T) (by omega)
  have c1' : w.cell? ⟨b, o + (18 + T + 1), none⟩ = some (.int .u8 (zs.getD (18 + T + 1) 0)) := hz (18 + T + 1) (by omega)
  have c1 : w.cell? ⟨b, o + (18 + T) + 1, none⟩ = some (.int .u8 (zs.getD (18 + T + 1) 0)) := by rw [show o + (18 + T) + 1 = o + (18 + T + 1) from by omega]; exact c1'
  obtain ⟨h0, h0'⟩ := bd (18 + T) (by omega)
  obtain ⟨h1, h1'⟩ := bd (18 + T + 1) (by omega)
  obtain ⟨N, hNe⟩ : ∃ N : Nat, zs.getD (18 + T) 0 * 256 + zs.getD (18 + T + 1) 0 = (N : Int) := ⟨(zs.getD (18 + T) 0 * 256 + zs.getD (18 + T + 1) 0).toNat, by omega⟩
  have hN := Int.le_of_eq hNe
  have hN' := Int.le_of_eq hNe.symm
  by_cases hbad : N = 0 ∨ N % 16 ≠ 0
  · have hbad' : ((N : Int) == 0) = true ∨ ((N : Int) == 0) = false ∧ ((N : Int) % 16 != 0) = true := by
      by_cases hN0 : N = 0
      · left; simp [hN0]
      · right
        refine ⟨by simp; omega, ?_⟩
        simp
        omega
    exact acc_B b o n c _ _ _ _ _ _ _ _ _ _ _ _ _ _ _ _ _ _ _ w hn hm' hcap a0 a1 a2 a3 a4 a5 a6 a7 a8 a9 a10 a11 a12 a13 a14 a15 a16 (parse_6 F b o n c T N _ _ _ _ _ _ _ _ _ _ _ _ _ _ _ _ _ _ w hF a0 a1 a2 a3 a4 a5 a6 a7 a8 a9 a10 a11 a12 a13 a14 a15 a16 aT c0 c1 h0 h0' h1 h1' hN hN' (by omega) hbad' hT hT' hm' hcap) (fun W hb => zz6 b o n c T N _ _ W hn hm' (XS W hb).1 (XS W hb).2 (cell_later hb c0) (cell_later hb c1') h0 h0' h1 h1' hN hN' hT hT' (by omega) hbad')
  have hz0 : ((N : Int) == 0) = false := by simp; omega
  have hgood : ((N : Int) % 16 != 0) = false := by simp; omega
  by_cases hlen : n = 18 + T + 2 + N + 17
  rotate_left
  · exact acc_B b o n c _ _ _ _ _ _ _ _ _ _ _ _ _ _ _ _ _ _ _ w hn hm' hcap a0 a1 a2 a3 a4 a5 a6 a7 a8 a9 a10 a11 a12 a13 a14 a15 a16 (parse_7 F b o n c T N _ _ _ _ _ _ _ _ _ _ _ _ _ _ _ _ _ _ w hF a0 a1 a2 a3 a4 a5 a6 a7 a8 a9 a10 a11 a12 a13 a14 a15 a16 aT c0 c1 h0 h0' h1 h1' hN hN' (by omega) hz0 hgood (by simp; omega) hT hT' hm' hcap) (fun W hb => zz7 b o n c T N _ _ W hn hm' (XS W hb).1 (XS W hb).2 (cell_later hb c0) (cell_later hb c1') h0 h0' h1 h1' hN hN' hT hT' (by omega) hz0 hgood (by simp; omega))
  have c2 : w.cell? ⟨b, o + (18 + T + 2 + N), none⟩ = some (.int .u8 (zs.getD (18 + T + 2 + N) 0)) := hz _ (by omega)
  by_cases hze : zs.getD (18 + T + 2 + N) 0 = 16
  rotate_left
  · have hne : (zs.getD (18 + T + 2 + N) 0 != 16) = true := by simpa using hze
    exact acc_B b o n c _ _ _ _ _ _ _ _ _ _ _ _ _ _ _ _ _ _ _ w hn hm' hcap a0 a1 a2 a3 a4 a5 a6 a7 a8 a9 a10 a11 a12 a13 a14 a15 a16 (parse_8 F b o n c T N _ _ _ _ _ _ _ _ _ _ _ _ _ _ _ _ _ _ _ w hF a0 a1 a2 a3 a4 a5 a6 a7 a8 a9 a10 a11 a12 a13 a14 a15 a16 aT c0 c1 c2 h0 h0' h1 h1' hN hN' (by omega) (by omega) hz0 hgood hne hT hT' hm' hcap) (fun W hb => zz8 b o n c T N _ _ _ W hn hm' (XS W hb).1 (XS W hb).2 (cell_later hb c0) (cell_later hb c1') (cell_later hb c2) h0 h0' h1 h1' hN hN' hT hT' (by omega) (by omega) hz0 hgood hne)
  rw [hze] at c2
  exact acc_C b o n c T N _ _ _ _ _ _ _ _ _ _ _ _ _ _ _ _ zs w hm' hcap a0 a1 a2 a3 a4 a5 a6 a7 a8 a9 a10 a11 a12 a13 a14 a15 a16 ⟨by omega, hz⟩ hT hT' (by omega) (by omega) (by omega) (by omega)
    (parse_ok b o n c T N _ _ _ _ _ _ _ _ _ _ _ _ _ _ _ _ _ _ w a0 a1 a2 a3 a4 a5 a6 a7 a8 a9 a10 a11 a12 a13 a14 a15 a16 aT c0 c1 c2 h0 h0' h1 h1' hN hN' (by omega) (by omega) (by omega) hgood hT hT' hm' hcap (by omega))
    (fun W hb => zz9 b o n c T N _ _ W hn hm' (XS W hb).1 (XS W hb).2 (cell_later hb c0) (cell_later hb c1') (cell_later hb c2) h0 h0' h1 h1' hN hN' hT hT' (by omega) (by omega) hz0 hgood)
end Go.Proofs.YbulkyliFmt
