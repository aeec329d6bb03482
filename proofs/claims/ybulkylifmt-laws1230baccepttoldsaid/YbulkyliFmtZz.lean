/-
  zzs1230bok, case by case.
-/
import Derived.Test.YbulkyliFmtTail
namespace Go.Proofs.YbulkyliFmt
open Go.RowKit

theorem wraps_i64 (n : Int) (h₀ : 0 ≤ n) (h₁ : n < 2 ^ 63) : IntKind.i64.wrap n = n := by rw [IntKind.wrap_i64]; omega
theorem or_i64 (y0 y1 : Int) (N : Nat) (h0 : 0 ≤ y0) (h0' : y0 < 256) (h1 : 0 ≤ y1) (h1' : y1 < 256) (hN : y0 * 256 + y1 ≤ N) (hN' : N ≤ y0 * 256 + y1) : bits .or .i64 (y0 * 256) y1 = (N : Int) := by
  rw [bits_join .i64 63 (by decide) wraps_i64 8 (y0 * 256) y1 (by omega) (by omega) (by omega) (by omega) (by omega) (by omega)]
  omega

/-- C1: too short. -/
theorem zz1 (a : Option Addr) (n c : Nat) (w : World) (hn : (n : Int) < 18) :
    Calls Ybaf.prog 6 #[.slice a n c] w fun e w' => e = .returned (.tuple #[.bool false, .int .i64 0, .int .i64 0]) ∧ ∃ k, w' = w.drewN k := by
  have h : (n : Int) < 18 := hn
  go_enter Ybaf.func6, Ybaf.ntmps6
  go_wp2
  go_ret3
  exact ⟨rfl, 0, rfl⟩

theorem zz2 (b o n c : Nat) (z : Int) (w : World) (hn : 18 ≤ n) (hm : n ≤ 4096) (a0 : w.cell? ⟨b, o, none⟩ = some (.int .u8 z)) (hz : (z != 16) = true) :
    Calls Ybaf.prog 6 #[.slice (some ⟨b, o, none⟩) n c] w fun e w' => e = .returned (.tuple #[.bool false, .int .i64 0, .int .i64 0]) ∧ ∃ k, w' = w.drewN k := by
  have h : ¬ (n : Int) < 18 := by omega
  go_enter Ybaf.func6, Ybaf.ntmps6
  go_wp2
  go_ret3
  exact ⟨rfl, 0, rfl⟩

theorem zz3 (b o n c : Nat) (w : World) (hn : 18 ≤ n) (hm : n ≤ 4096) (a0 : w.cell? ⟨b, o, none⟩ = some (.int .u8 16)) (aT : w.cell? ⟨b, o + 17, none⟩ = some (.int .u8 0)) :
    Calls Ybaf.prog 6 #[.slice (some ⟨b, o, none⟩) n c] w fun e w' => e = .returned (.tuple #[.bool false, .int .i64 0, .int .i64 0]) ∧ ∃ k, w' = w.drewN k := by
  have h : ¬ (n : Int) < 18 := by omega
  go_enter Ybaf.func6, Ybaf.ntmps6
  go_wp2
  go_ret3
  exact ⟨rfl, 0, rfl⟩

theorem zz45 (b o n c T : Nat) (w : World) (hn : 18 ≤ n) (hm : n ≤ 4096) (a0 : w.cell? ⟨b, o, none⟩ = some (.int .u8 16)) (aT : w.cell? ⟨b, o + 17, none⟩ = some (.int .u8 T))
    (hT : 0 < T) (hT' : T < 256) (hlt : n < 18 + T + 2) :
    Calls Ybaf.prog 6 #[.slice (some ⟨b, o, none⟩) n c] w fun e w' => e = .returned (.tuple #[.bool false, .int .i64 0, .int .i64 0]) ∧ ∃ k, w' = w.drewN k := by
  have h : ¬ (n : Int) < 18 := by omega
  have h1 : ((T : Int) == 0) = false := by simp; omega
  go_enter Ybaf.func6, Ybaf.ntmps6
  go_wp2
  go_ret3
  exact ⟨rfl, 0, rfl⟩

set_option maxHeartbeats 1000000 in
theorem zz6 (b o n c T N : Nat) (y0 y1 : Int) (w : World) (hn : 18 ≤ n) (hm : n ≤ 4096) (a0 : w.cell? ⟨b, o, none⟩ = some (.int .u8 16)) (aT : w.cell? ⟨b, o + 17, none⟩ = some (.int .u8 T))
    (c0 : w.cell? ⟨b, o + (18 + T), none⟩ = some (.int .u8 y0)) (c1 : w.cell? ⟨b, o + (18 + T + 1), none⟩ = some (.int .u8 y1)) (h0 : 0 ≤ y0) (h0' : y0 < 256) (h1 : 0 ≤ y1) (h1' : y1 < 256) (hN : y0 * 256 + y1 ≤ N) (hN' : N ≤ y0 * 256 + y1)
    (hT : 0 < T) (hT' : T < 256) (hge : 18 + T + 2 ≤ n) (hbad : ((N : Int) == 0) = true ∨ ((N : Int) == 0) = false ∧ ((N : Int) % 16 != 0) = true) :
    Calls Ybaf.prog 6 #[.slice (some ⟨b, o, none⟩) n c] w fun e w' => e = .returned (.tuple #[.bool false, .int .i64 0, .int .i64 0]) ∧ ∃ k, w' = w.drewN k := by
  have h : ¬ (n : Int) < 18 := by omega
  have hT0 : ((T : Int) == 0) = false := by simp; omega
  have hb := or_i64 y0 y1 N h0 h0' h1 h1' hN hN'
  have hNl : N < 65536 := by omega
  rcases hbad with hbad | ⟨hz, hbad⟩
  all_goals
    go_enter Ybaf.func6, Ybaf.ntmps6
    go_wp2
    go_quiet (fail)
    go_wp2
    go_ret3
    exact ⟨rfl, nq, rfl⟩

set_option maxHeartbeats 1000000 in
theorem zz7 (b o n c T N : Nat) (y0 y1 : Int) (w : World) (hn : 18 ≤ n) (hm : n ≤ 4096) (a0 : w.cell? ⟨b, o, none⟩ = some (.int .u8 16)) (aT : w.cell? ⟨b, o + 17, none⟩ = some (.int .u8 T))
    (c0 : w.cell? ⟨b, o + (18 + T), none⟩ = some (.int .u8 y0)) (c1 : w.cell? ⟨b, o + (18 + T + 1), none⟩ = some (.int .u8 y1)) (h0 : 0 ≤ y0) (h0' : y0 < 256) (h1 : 0 ≤ y1) (h1' : y1 < 256) (hN : y0 * 256 + y1 ≤ N) (hN' : N ≤ y0 * 256 + y1)
    (hT : 0 < T) (hT' : T < 256) (hge : 18 + T + 2 ≤ n) (hz : ((N : Int) == 0) = false) (hgood : ((N : Int) % 16 != 0) = false) (hne : ((n : Int) != 18 + (T : Int) + 2 + (N : Int) + 17) = true) :
    Calls Ybaf.prog 6 #[.slice (some ⟨b, o, none⟩) n c] w fun e w' => e = .returned (.tuple #[.bool false, .int .i64 0, .int .i64 0]) ∧ ∃ k, w' = w.drewN k := by
  have h : ¬ (n : Int) < 18 := by omega
  have hT0 : ((T : Int) == 0) = false := by simp; omega
  have hb := or_i64 y0 y1 N h0 h0' h1 h1' hN hN'
  have hNl : N < 65536 := by omega
  go_enter Ybaf.func6, Ybaf.ntmps6
  go_wp2
  go_quiet (fail)
  go_wp2
  go_ret3
  exact ⟨rfl, nq, rfl⟩

set_option maxHeartbeats 1000000 in
theorem zz8 (b o n c T N : Nat) (y0 y1 z : Int) (w : World) (hn : 18 ≤ n) (hm : n ≤ 4096) (a0 : w.cell? ⟨b, o, none⟩ = some (.int .u8 16)) (aT : w.cell? ⟨b, o + 17, none⟩ = some (.int .u8 T))
    (c0 : w.cell? ⟨b, o + (18 + T), none⟩ = some (.int .u8 y0)) (c1 : w.cell? ⟨b, o + (18 + T + 1), none⟩ = some (.int .u8 y1)) (c2 : w.cell? ⟨b, o + (18 + T + 2 + N), none⟩ = some (.int .u8 z)) (h0 : 0 ≤ y0) (h0' : y0 < 256) (h1 : 0 ≤ y1) (h1' : y1 < 256) (hN : y0 * 256 + y1 ≤ N) (hN' : N ≤ y0 * 256 + y1)
    (hT : 0 < T) (hT' : T < 256) (hlen : n ≤ 18 + T + 2 + N + 17) (hlen' : 18 + T + 2 + N + 17 ≤ n) (hz : ((N : Int) == 0) = false) (hgood : ((N : Int) % 16 != 0) = false) (hze : (z != 16) = true) :
    Calls Ybaf.prog 6 #[.slice (some ⟨b, o, none⟩) n c] w fun e w' => e = .returned (.tuple #[.bool false, .int .i64 0, .int .i64 0]) ∧ ∃ k, w' = w.drewN k := by
  have h : ¬ (n : Int) < 18 := by omega
  have hT0 : ((T : Int) == 0) = false := by simp; omega
  have hb := or_i64 y0 y1 N h0 h0' h1 h1' hN hN'
  have hNl : N < 65536 := by omega
  have hne : ((n : Int) != 18 + (T : Int) + 2 + (N : Int) + 17) = false := by simp; omega
  go_enter Ybaf.func6, Ybaf.ntmps6
  go_wp2
  go_quiet (fail)
  go_wp2
  go_ret3
  exact ⟨rfl, nq, rfl⟩

set_option maxHeartbeats 1000000 in
theorem zz9 (b o n c T N : Nat) (y0 y1 : Int) (w : World) (hn : 18 ≤ n) (hm : n ≤ 4096) (a0 : w.cell? ⟨b, o, none⟩ = some (.int .u8 16)) (aT : w.cell? ⟨b, o + 17, none⟩ = some (.int .u8 T))
    (c0 : w.cell? ⟨b, o + (18 + T), none⟩ = some (.int .u8 y0)) (c1 : w.cell? ⟨b, o + (18 + T + 1), none⟩ = some (.int .u8 y1)) (c2 : w.cell? ⟨b, o + (18 + T + 2 + N), none⟩ = some (.int .u8 16)) (h0 : 0 ≤ y0) (h0' : y0 < 256) (h1 : 0 ≤ y1) (h1' : y1 < 256) (hN : y0 * 256 + y1 ≤ N) (hN' : N ≤ y0 * 256 + y1)
    (hT : 0 < T) (hT' : T < 256) (hlen : n ≤ 18 + T + 2 + N + 17) (hlen' : 18 + T + 2 + N + 17 ≤ n) (hz : ((N : Int) == 0) = false) (hgood : ((N : Int) % 16 != 0) = false) :
    Calls Ybaf.prog 6 #[.slice (some ⟨b, o, none⟩) n c] w fun e w' => e = .returned (.tuple #[.bool true, .int .i64 T, .int .i64 N]) ∧ ∃ k, w' = w.drewN k := by
  have h : ¬ (n : Int) < 18 := by omega
  have hT0 : ((T : Int) == 0) = false := by simp; omega
  have hb := or_i64 y0 y1 N h0 h0' h1 h1' hN hN'
  have hNl : N < 65536 := by omega
  have hne : ((n : Int) != 18 + (T : Int) + 2 + (N : Int) + 17) = false := by simp; omega
  go_enter Ybaf.func6, Ybaf.ntmps6
  go_wp2
  go_quiet (fail)
  go_wp2
  go_ret3
  exact ⟨rfl, nq, rfl⟩
end Go.Proofs.YbulkyliFmt
