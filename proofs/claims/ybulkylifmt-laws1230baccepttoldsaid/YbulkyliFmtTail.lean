/-
  Contracts of the leaves (bytes.Equal, checkID, Uint16) and of parseTail, where the frame is well laid out.
-/
import Derived.Test.YbulkyliFmtKit
import Derived.WalkKit
import Derived.WalkSpells
import Derived.WalkLawsBesides
import Derived.Deep.QuietTactic
import Derived.BigQuiet
import Derived.Deep.RegionWith
import Derived.BigRegion
import Derived.Lib.EndianBits
import Derived.Laws.StructEq
namespace Go.Proofs.YbulkyliFmt
open Go.RowKit
attribute [local simp] rd_any wr_16 wr_18 wr_19
attribute [local go_sem] cellOr Value.oneCell' rd_run0 rd_run1 rd_run2 rd_run16 rd_run18 rd_run19 wr_run rowLen_drewN rowLen_drew rowLen_at rowLen_past putRow_at putRow_past putRow_drew putRow_drewN
theorem forIn_same {β : Type} (P : Program) (w : World) (f : Nat → β → Sem (ForInStep β)) (b : β) : ∀ l : List Nat, (∀ i ∈ l, (f i b).run P w = .ok (.yield b) w) → (forIn l b f).run P w = .ok b w
  | [], _ => rfl
  | i :: l, h => by
    rw [List.forIn_cons, Sem.run_bind, h i (by simp), Result.andThen_ok]
    exact forIn_same P w f b l (fun j hj => h j (by simp [hj]))

theorem equalIn_u8s (xs : List Int) (hx : xs.length = 16) (w : World) :
    (Op.equalIn 10000 23 (.agg (xs.map (Value.int .u8)).toArray) (.agg (xs.map (Value.int .u8)).toArray)).run Ybaf.prog w = .ok true w := by
  have u5 := Ybaf.underlying5
  have a5 := Ybaf.isAgg5
  have z5 := Ybaf.sizeOf5
  rw [show (10000 : Nat) = 9999 + 1 from rfl, Op.equalIn]
  simp only [Sem.run_bind, run_underlying Ybaf.underlying23, Result.andThen_ok, z5, Std.Legacy.Range.forIn_eq_forIn_range', Std.Legacy.Range.size, Nat.sub_zero, Nat.add_sub_cancel, Nat.div_one]
  rw [forIn_same]
  · rfl
  · intro i hi
    have hi' : i < xs.length := by rw [hx]; simp [List.mem_range'] at hi; omega
    simp only [Nat.mul_one, part, Sem.run_bind, a5, Result.andThen_ok]
    simp [hi']
    rw [show (9999 : Nat) = 9998 + 1 from rfl, run_equalIn_int w 9998 5 .u8 .u8 _ _ u5]
    simp

theorem eq23 (x0 x1 x2 x3 x4 x5 x6 x7 x8 x9 x10 x11 x12 x13 x14 x15 : Int) (w : World) : (Op.equalIn 10000 23 (.agg #[.int .u8 x0, .int .u8 x1, .int .u8 x2, .int .u8 x3, .int .u8 x4, .int .u8 x5, .int .u8 x6, .int .u8 x7, .int .u8 x8, .int .u8 x9, .int .u8 x10, .int .u8 x11, .int .u8 x12, .int .u8 x13, .int .u8 x14, .int .u8 x15]) (.agg #[.int .u8 x0, .int .u8 x1, .int .u8 x2, .int .u8 x3, .int .u8 x4, .int .u8 x5, .int .u8 x6, .int .u8 x7, .int .u8 x8, .int .u8 x9, .int .u8 x10, .int .u8 x11, .int .u8 x12, .int .u8 x13, .int .u8 x14, .int .u8 x15])).run Ybaf.prog w = .ok true w := equalIn_u8s [x0, x1, x2, x3, x4, x5, x6, x7, x8, x9, x10, x11, x12, x13, x14, x15] rfl w

theorem equal_conv (v1 v2 : Value) (s1 s2 : ByteArray) (w : World) (h1 : (convert 22 9 v1).run Ybaf.prog w = .ok (.string s1) w) (h2 : (convert 22 9 v2).run Ybaf.prog w = .ok (.string s2) w) :
    Calls Ybaf.prog 7 #[v1, v2] w fun e w' => e = .returned (.bool (s1.toList == s2.toList)) ∧ w' = w := by
  go_enter Ybaf.func7, Ybaf.ntmps7
  go_wp2
  go_ret
  exact ⟨rfl, rfl⟩

theorem equal_same (b1 o1 n c1 b2 o2 c2 : Nat) (zs : List Int) (w : World) (hz : zs.length = n)
    (h1 : ∀ i, i < n → w.cell? ⟨b1, o1 + i, none⟩ = some (.int .u8 (zs.getD i 0))) (h2 : ∀ i, i < n → w.cell? ⟨b2, o2 + i, none⟩ = some (.int .u8 (zs.getD i 0))) :
    Calls Ybaf.prog 7 #[.slice (some ⟨b1, o1, none⟩) n c1, .slice (some ⟨b2, o2, none⟩) n c2] w fun e w' => e = .returned (.bool true) ∧ w' = w := by
  have q1 := run_convert_bytes_arg (P := Ybaf.prog) w 22 5 Ybaf.underlying22 Ybaf.underlying5 b1 o1 n c1 zs hz h1 9 Ybaf.underlying9
  have q2 := run_convert_bytes_arg (P := Ybaf.prog) w 22 5 Ybaf.underlying22 Ybaf.underlying5 b2 o2 n c2 zs hz h2 9 Ybaf.underlying9
  have := equal_conv _ _ _ _ w q1 q2
  simpa using this

set_option maxHeartbeats 400000 in
theorem checkID_nil (b o n c : Nat) (w : World) (hn : 18 ≤ n) (hc : w.cell? ⟨b, o, none⟩ = some (.int .u8 16)) (hm : n ≤ 9223372036854775807) :
    Calls Ybaf.prog 8 #[.slice (some ⟨b, o, none⟩) n c, .int .i64 18] w fun e w' => e = .returned .nilIface ∧ w' = w := by
  go_enter Ybaf.func8, Ybaf.ntmps8
  go_wp2
  go_ret
  exact ⟨rfl, rfl⟩

theorem ret_int {k : IntKind} {a b : Int} (h : a = b) : Ending.returned (.int k a) = .returned (.int k b) := by rw [h]

set_option maxHeartbeats 400000 in
theorem uint16_any (b o n c : Nat) (y0 y1 : Int) (N : Nat) (w : World) (hn : 2 ≤ n) (c0 : w.cell? ⟨b, o, none⟩ = some (.int .u8 y0)) (c1 : w.cell? ⟨b, o + 1, none⟩ = some (.int .u8 y1)) (h0 : 0 ≤ y0) (h0' : y0 < 256) (h1 : 0 ≤ y1) (h1' : y1 < 256) (hm : n ≤ 9223372036854775807)
    (hN : y0 * 256 + y1 ≤ N) (hN' : N ≤ y0 * 256 + y1) :
    Calls Ybaf.prog 13 #[.agg #[], .slice (some ⟨b, o, none⟩) n c] w fun e w' => e = .returned (.int .u16 N) ∧ ∃ k, w' = (w.alloc (.cells #[] 48)).drewN k := by
  have d0 := cell_later ((Below.refl _ w).alloc (Nat.le_refl _) (.cells #[] 48)) c0
  have d1 := cell_later ((Below.refl _ w).alloc (Nat.le_refl _) (.cells #[] 48)) c1
  go_enter Ybaf.func13, Ybaf.ntmps13
  go_wp2
  go_quiet (fail)
  go_wp2
  go_ret
  refine ⟨ret_int ?_, nq, rfl⟩
  rw [u16_or8 y1 (y0 * 256) h1 h1' (by omega) (by omega) (by omega)]
  omega

set_option maxHeartbeats 1000000 in
theorem tail_ok (b o n c off N : Nat) (y0 y1 : Int) (x0 x1 x2 x3 x4 x5 x6 x7 x8 x9 x10 x11 x12 x13 x14 x15 : Int) (w : World)
    (c0 : w.cell? ⟨b, o + off, none⟩ = some (.int .u8 y0)) (c1 : w.cell? ⟨b, o + off + 1, none⟩ = some (.int .u8 y1)) (c2 : w.cell? ⟨b, o + (off + 2 + N), none⟩ = some (.int .u8 16))
    (h0 : 0 ≤ y0) (h0' : y0 < 256) (h1 : 0 ≤ y1) (h1' : y1 < 256) (hN : y0 * 256 + y1 ≤ N) (hN' : N ≤ y0 * 256 + y1)
    (hlen : n ≤ off + 2 + N + 17) (hlen' : off + 2 + N + 17 ≤ n) (hN1 : 0 < N) (hN2 : ((N : Int) % 16 != 0) = false)
    (hn : n ≤ 4096) (hcap : n ≤ c) (hcc : c ≤ 9223372036854775807) :
    Calls Ybaf.prog 10 #[.slice (some ⟨b, o, none⟩) n c, .int .i64 off, .agg #[.int .u8 x0, .int .u8 x1, .int .u8 x2, .int .u8 x3, .int .u8 x4, .int .u8 x5, .int .u8 x6, .int .u8 x7, .int .u8 x8, .int .u8 x9, .int .u8 x10, .int .u8 x11, .int .u8 x12, .int .u8 x13, .int .u8 x14, .int .u8 x15]] w fun e w' => e = .returned (.tuple #[.agg #[.int .u8 x0, .int .u8 x1, .int .u8 x2, .int .u8 x3, .int .u8 x4, .int .u8 x5, .int .u8 x6, .int .u8 x7, .int .u8 x8, .int .u8 x9, .int .u8 x10, .int .u8 x11, .int .u8 x12, .int .u8 x13, .int .u8 x14, .int .u8 x15, .slice (some ⟨b, o, none⟩) (off + 2 + N + 1) (off + 2 + N + 1), .slice (some ⟨b, o + (off + 2), none⟩) N N, .slice (some ⟨b, o + (off + 2 + N + 1), none⟩) (n - (off + 2 + N + 1)) (c - (off + 2 + N + 1))], .nilIface]) ∧
      ∃ k, w' = (((w.alloc (.cells #[.int .u8 x0, .int .u8 x1, .int .u8 x2, .int .u8 x3, .int .u8 x4, .int .u8 x5, .int .u8 x6, .int .u8 x7, .int .u8 x8, .int .u8 x9, .int .u8 x10, .int .u8 x11, .int .u8 x12, .int .u8 x13, .int .u8 x14, .int .u8 x15] 23)).alloc (.cells #[.int .u8 x0, .int .u8 x1, .int .u8 x2, .int .u8 x3, .int .u8 x4, .int .u8 x5, .int .u8 x6, .int .u8 x7, .int .u8 x8, .int .u8 x9, .int .u8 x10, .int .u8 x11, .int .u8 x12, .int .u8 x13, .int .u8 x14, .int .u8 x15, .slice (some ⟨b, o, none⟩) (off + 2 + N + 1) (off + 2 + N + 1), .slice (some ⟨b, o + (off + 2), none⟩) N N, .slice (some ⟨b, o + (off + 2 + N + 1), none⟩) (n - (off + 2 + N + 1)) (c - (off + 2 + N + 1))] 28)).alloc (.cells #[] 48)).drewN k := by
  have hbb : b < w.heap.size := World.block_lt_of_cell? _ _ c0
  have c0' : ∀ o1 o2, ((w.alloc o1).alloc o2).cell? ⟨b, o + off, none⟩ = some (.int .u8 y0) := fun o1 o2 => cell_later (((Below.refl _ w).alloc (Nat.le_refl _) o1).alloc (by simp) o2) c0
  have c1' : ∀ o1 o2, ((w.alloc o1).alloc o2).cell? ⟨b, o + off + 1, none⟩ = some (.int .u8 y1) := fun o1 o2 => cell_later (((Below.refl _ w).alloc (Nat.le_refl _) o1).alloc (by simp) o2) c1
  have c2' : ∀ o1 o2 o3, (((w.alloc o1).alloc o2).alloc o3).cell? ⟨b, o + (off + 2 + N), none⟩ = some (.int .u8 16) := fun o1 o2 o3 => cell_later ((((Below.refl _ w).alloc (Nat.le_refl _) o1).alloc (by simp) o2).alloc (by simp; omega) o3) c2
  go_enter Ybaf.func10, Ybaf.ntmps10
  go_wp2_with fail
  go_region_with (go_at_call 13; refine (uint16_any b (o + off) _ _ y0 y1 N _ (by omega) (by exact c0' _ _) (by exact c1' _ _) h0 h0' h1 h1' (by omega) hN hN').mono ?_; rintro e w1 ⟨rfl, k, rfl⟩)
  all_goals
    go_wp2_with fail
    go_region
    go_wp2
    refine bodyPost_ret (v := .tuple #[.agg #[.int .u8 x0, .int .u8 x1, .int .u8 x2, .int .u8 x3, .int .u8 x4, .int .u8 x5, .int .u8 x6, .int .u8 x7, .int .u8 x8, .int .u8 x9, .int .u8 x10, .int .u8 x11, .int .u8 x12, .int .u8 x13, .int .u8 x14, .int .u8 x15, .slice (some ⟨b, o, none⟩) (off + 2 + N + 1) (off + 2 + N + 1), .slice (some ⟨b, o + (off + 2), none⟩) N N, .slice (some ⟨b, o + (off + 2 + N + 1), none⟩) (n - (off + 2 + N + 1)) (c - (off + 2 + N + 1))], .nilIface]) ?_ rfl ⟨rfl, _, rfl⟩
    simp [results, Ybaf.results10, go_sem]

theorem tail_ok_at (b o n c off N : Nat) (offI : Int) (hoff : offI = off) (y0 y1 : Int) (x0 x1 x2 x3 x4 x5 x6 x7 x8 x9 x10 x11 x12 x13 x14 x15 : Int) (w : World)
    (c0 : w.cell? ⟨b, o + off, none⟩ = some (.int .u8 y0)) (c1 : w.cell? ⟨b, o + off + 1, none⟩ = some (.int .u8 y1)) (c2 : w.cell? ⟨b, o + (off + 2 + N), none⟩ = some (.int .u8 16))
    (h0 : 0 ≤ y0) (h0' : y0 < 256) (h1 : 0 ≤ y1) (h1' : y1 < 256) (hN : y0 * 256 + y1 ≤ N) (hN' : N ≤ y0 * 256 + y1)
    (hlen : n ≤ off + 2 + N + 17) (hlen' : off + 2 + N + 17 ≤ n) (hN1 : 0 < N) (hN2 : ((N : Int) % 16 != 0) = false)
    (hn : n ≤ 4096) (hcap : n ≤ c) (hcc : c ≤ 9223372036854775807) :
    Calls Ybaf.prog 10 #[.slice (some ⟨b, o, none⟩) n c, .int .i64 offI, .agg #[.int .u8 x0, .int .u8 x1, .int .u8 x2, .int .u8 x3, .int .u8 x4, .int .u8 x5, .int .u8 x6, .int .u8 x7, .int .u8 x8, .int .u8 x9, .int .u8 x10, .int .u8 x11, .int .u8 x12, .int .u8 x13, .int .u8 x14, .int .u8 x15]] w fun e w' => e = .returned (.tuple #[.agg #[.int .u8 x0, .int .u8 x1, .int .u8 x2, .int .u8 x3, .int .u8 x4, .int .u8 x5, .int .u8 x6, .int .u8 x7, .int .u8 x8, .int .u8 x9, .int .u8 x10, .int .u8 x11, .int .u8 x12, .int .u8 x13, .int .u8 x14, .int .u8 x15, .slice (some ⟨b, o, none⟩) (off + 2 + N + 1) (off + 2 + N + 1), .slice (some ⟨b, o + (off + 2), none⟩) N N, .slice (some ⟨b, o + (off + 2 + N + 1), none⟩) (n - (off + 2 + N + 1)) (c - (off + 2 + N + 1))], .nilIface]) ∧
      ∃ k, w' = (((w.alloc (.cells #[.int .u8 x0, .int .u8 x1, .int .u8 x2, .int .u8 x3, .int .u8 x4, .int .u8 x5, .int .u8 x6, .int .u8 x7, .int .u8 x8, .int .u8 x9, .int .u8 x10, .int .u8 x11, .int .u8 x12, .int .u8 x13, .int .u8 x14, .int .u8 x15] 23)).alloc (.cells #[.int .u8 x0, .int .u8 x1, .int .u8 x2, .int .u8 x3, .int .u8 x4, .int .u8 x5, .int .u8 x6, .int .u8 x7, .int .u8 x8, .int .u8 x9, .int .u8 x10, .int .u8 x11, .int .u8 x12, .int .u8 x13, .int .u8 x14, .int .u8 x15, .slice (some ⟨b, o, none⟩) (off + 2 + N + 1) (off + 2 + N + 1), .slice (some ⟨b, o + (off + 2), none⟩) N N, .slice (some ⟨b, o + (off + 2 + N + 1), none⟩) (n - (off + 2 + N + 1)) (c - (off + 2 + N + 1))] 28)).alloc (.cells #[] 48)).drewN k := by
  subst hoff; exact tail_ok b o n c off N y0 y1 x0 x1 x2 x3 x4 x5 x6 x7 x8 x9 x10 x11 x12 x13 x14 x15 w c0 c1 c2 h0 h0' h1 h1' hN hN' hlen hlen' hN1 hN2 hn hcap hcc
end Go.Proofs.YbulkyliFmt
