/-
  LawS1244ABuilt: the walks: without an insertion, with one, and of a long row.
-/
import Derived.Test.YbulkyswBytes
namespace Go.Proofs.Ybulkysw
open Go.RowKit
set_option maxHeartbeats 2000000 in
set_option maxRecDepth 100000 in
theorem built_plain (a : Option Addr) (b o n c : Nat) (haa : Hid (0 < n → a = some ⟨b, o, none⟩)) (Z : Nat → Int) (bad pos : Int) (w : World) (hn : n ≤ 1024) (hnc : n ≤ c)
    (hZ : ∀ i, i < n → w.cell? ⟨b, o + i, none⟩ = some (.int .u8 (Z i)) ∧ 0 ≤ Z i ∧ Z i ≤ 255) :
    Calls Yba.prog 4 #[.slice a n c, .bool false, .int .u8 bad, .int .u8 pos] w fun e w' => e = .returned (.bool true) ∧ Below w.heap.size w w' := by
  have HZ : Hid (∀ i, i < n → w.cell? ⟨b, o + i, none⟩ = some (.int .u8 (Z i)) ∧ 0 ≤ Z i ∧ Z i ≤ 255) := hZ
  clear hZ
  obtain ⟨i0, hi, hz0, hz1, hz2⟩ : ∃ i, Yba.prog.info? 5 = some i ∧ i.zero = some (.int .u8 0) ∧ i.size = 1 ∧ i.bytes = 1 := by
    have h := info5
    cases hh : Yba.prog.info? 5 with
    | none => rw [hh] at h; simp at h
    | some i => rw [hh] at h; simp at h; exact ⟨i, rfl, h.1, h.2.1, h.2.2⟩
  have h' : ¬ (1024 : Int) < n := by omega
  go_enter Yba.func4, Yba.ntmps4
  go_wp2_with (first
    | (go_at_call 7; refine (gt_call _).mono ?_; rintro e w' ⟨rfl, hw'⟩; have hw'' := hw'.symm; clear hw'; subst hw'')
    | (go_at_call 8; refine (bt_call _).mono ?_; rintro e w' ⟨rfl, hw'⟩; have hw'' := hw'.symm; clear hw'; subst hw'')
    | (at_make; refine wpList_make_own _ rfl _ _ 24 rfl w.heap.size 5 i0 (.int .u8 0) 1 Yba.underlying24 hi hz0 hz1 .i64 .i64 _ (n + 1) rfl rfl (by omega) (by rw [hz2]; omega) (by unfold maxLen; omega) (Nat.le_refl _) ?_; intro w1 own1 gr1))
  have HI : Hid (Yba.prog.info? 5 = some i0) := hi
  have HZ1 : Hid (i0.size = 1) := hz1
  clear hi hz0 hz1 hz2 h'
  go_loopw [28, 11] (fun i s wr => ∃ k : Nat, i = .int .i64 k ∧ s = .slice (some ⟨w.heap.size, 0, none⟩) k (n + 1) ∧ k ≤ n ∧ wr.ownsRow w.heap.size 5 1 (.slice (some ⟨w.heap.size, 0, none⟩) k (n + 1)) k (gds Z k) ∧ Below w.heap.size w wr) (fun i _ _ => n - (intOf i).toNat)
  case atStart => exact ⟨0, rfl, rfl, Nat.zero_le _, own1, (Below.refl _ _).grown gr1 (Nat.le_refl _) (by simp)⟩
  case round =>
    obtain ⟨k, rfl, rfl, hk, hown, hbel⟩ := hrel
    clear own1 gr1
    by_cases hlt : k < n
    · obtain rfl := haa.out (by omega)
      obtain ⟨c0, z0, z1⟩ := HZ.out k hlt
      have d0 := cell_later hbel c0
      have hix := idx_g (Z k) z0
      rw [Int.tmod_eq_emod_of_nonneg z0] at hix
      have HOWN : Hid (wr.ownsRow w.heap.size 5 1 (.slice (some ⟨w.heap.size, 0, none⟩) k (n + 1)) k (gds Z k)) := hown
      have HB : Hid (Below w.heap.size w wr) := hbel
      clear c0 hown hbel
      go_wp2_with (at_builtin; (refine wpList_append_fits _ rfl (.tmp 32) (.tmp 40) 24 rfl w.heap.size 5 i0 1 Yba.underlying24 HI.out HZ1.out w.heap.size k (n+1) _ rfl (World.ownsRow.alloc HOWN.out _) ⟨wr.heap.size,0,none⟩ 1 1 [.int .u8 (gb (Z k))] rfl rfl (cell_one_new _ _ _) (by simp [Value.oneCell']) (by omega) ?_; intro w2 own2 gr2))
      rw [gds_succ] at own2
      go_roundw
      case rel =>
        exact ⟨k + 1, by go_num, rfl, by omega, own2, (HB.out.alloc HB.out.size _).grown gr2 (by have := HB.out.size; simp; omega) (by simp)⟩
      case measure => simp [intOf]; omega
    · obtain rfl : k = n := by omega
      have hcells : ∀ i, i < k → wr.cell? ⟨w.heap.size, i, none⟩ = some (.int .u8 (gb (Z i))) ∧ 0 ≤ gb (Z i) ∧ gb (Z i) ≤ 255 := fun i hi => by
        have hg := gb_good (HZ.out i hi).2.1
        exact ⟨by rw [World.ownsRow.cellAt hown i (by omega), gds_at Z hi], hg.2⟩
      have hconv := conv_back (fun i => gb (Z i)) k w.heap.size (k + 1) wr hcells
      have hsz := strOf_size (fun i => gb (Z i)) k
      have hip := isplain (strOf (fun i => gb (Z i)) k) wr (by omega)
      have hall : allPl (strOf (fun i => gb (Z i)) k) k = true := allPl_of (fun i hi => gb_good (HZ.out i hi).2.1) k (Nat.le_refl _)
      rw [hsz, hall] at hip
      have HB : Hid (Below w.heap.size w wr) := hbel
      clear hcells hsz hall hown hbel
      go_wp2_with (go_at_call 6; refine hip.mono ?_; rintro e w' ⟨rfl, hb⟩)
      go_ret
      exact ⟨rfl, HB.out.trans (hb.mono HB.out.size)⟩
set_option maxHeartbeats 2000000 in
set_option maxRecDepth 100000 in
theorem built_ins (a : Option Addr) (b o n c : Nat) (haa : Hid (0 < n → a = some ⟨b, o, none⟩)) (Z : Nat → Int) (bad pos : Int) (w : World) (hn : n ≤ 1024) (hnc : n ≤ c) (hb0 : 0 ≤ bad) (hb1 : bad ≤ 255) (hp0 : 0 ≤ pos) (hp1 : pos ≤ 255)
    (hZ : ∀ i, i < n → w.cell? ⟨b, o + i, none⟩ = some (.int .u8 (Z i)) ∧ 0 ≤ Z i ∧ Z i ≤ 255) :
    Calls Yba.prog 4 #[.slice a n c, .bool true, .int .u8 bad, .int .u8 pos] w fun e w' => e = .returned (.bool true) ∧ Below w.heap.size w w' := by
  have HZ : Hid (∀ i, i < n → w.cell? ⟨b, o + i, none⟩ = some (.int .u8 (Z i)) ∧ 0 ≤ Z i ∧ Z i ≤ 255) := hZ
  clear hZ
  obtain ⟨i0, hi, hz0, hz1, hz2⟩ : ∃ i, Yba.prog.info? 5 = some i ∧ i.zero = some (.int .u8 0) ∧ i.size = 1 ∧ i.bytes = 1 := by
    have h := info5
    cases hh : Yba.prog.info? 5 with
    | none => rw [hh] at h; simp at h
    | some i => rw [hh] at h; simp at h; exact ⟨i, rfl, h.1, h.2.1, h.2.2⟩
  have h' : ¬ (1024 : Int) < n := by omega
  go_enter Yba.func4, Yba.ntmps4
  go_wp2_with (first
    | (go_at_call 7; refine (gt_call _).mono ?_; rintro e w' ⟨rfl, hw'⟩; have hw'' := hw'.symm; clear hw'; subst hw'')
    | (go_at_call 8; refine (bt_call _).mono ?_; rintro e w' ⟨rfl, hw'⟩; have hw'' := hw'.symm; clear hw'; subst hw'')
    | (at_make; refine wpList_make_own _ rfl _ _ 24 rfl w.heap.size 5 i0 (.int .u8 0) 1 Yba.underlying24 hi hz0 hz1 .i64 .i64 _ (n + 1) rfl rfl (by omega) (by rw [hz2]; omega) (by unfold maxLen; omega) (Nat.le_refl _) ?_; intro w1 own1 gr1))
  have HI : Hid (Yba.prog.info? 5 = some i0) := hi
  have HZ1 : Hid (i0.size = 1) := hz1
  clear hi hz0 hz1 hz2 h'
  go_loopw [28, 11] (fun i s wr => ∃ k : Nat, i = .int .i64 k ∧ s = .slice (some ⟨w.heap.size, 0, none⟩) k (n + 1) ∧ k ≤ n ∧ wr.ownsRow w.heap.size 5 1 (.slice (some ⟨w.heap.size, 0, none⟩) k (n + 1)) k (gds Z k) ∧ Below w.heap.size w wr) (fun i _ _ => n - (intOf i).toNat)
  case atStart => exact ⟨0, rfl, rfl, Nat.zero_le _, own1, (Below.refl _ _).grown gr1 (Nat.le_refl _) (by simp)⟩
  case round =>
    obtain ⟨k, rfl, rfl, hk, hown, hbel⟩ := hrel
    clear own1 gr1
    by_cases hlt : k < n
    · obtain rfl := haa.out (by omega)
      obtain ⟨c0, z0, z1⟩ := HZ.out k hlt
      have d0 := cell_later hbel c0
      have hix := idx_g (Z k) z0
      rw [Int.tmod_eq_emod_of_nonneg z0] at hix
      have HOWN : Hid (wr.ownsRow w.heap.size 5 1 (.slice (some ⟨w.heap.size, 0, none⟩) k (n + 1)) k (gds Z k)) := hown
      have HB : Hid (Below w.heap.size w wr) := hbel
      clear c0 hown hbel
      go_wp2_with (at_builtin; (refine wpList_append_fits _ rfl (.tmp 32) (.tmp 40) 24 rfl w.heap.size 5 i0 1 Yba.underlying24 HI.out HZ1.out w.heap.size k (n+1) _ rfl (World.ownsRow.alloc HOWN.out _) ⟨wr.heap.size,0,none⟩ 1 1 [.int .u8 (gb (Z k))] rfl rfl (cell_one_new _ _ _) (by simp [Value.oneCell']) (by omega) ?_; intro w2 own2 gr2))
      rw [gds_succ] at own2
      go_roundw
      case rel =>
        exact ⟨k + 1, by go_num, rfl, by omega, own2, (HB.out.alloc HB.out.size _).grown gr2 (by have := HB.out.size; simp; omega) (by simp)⟩
      case measure => simp [intOf]; omega
    · obtain rfl : k = n := by omega
      have HOWN : Hid (wr.ownsRow w.heap.size 5 1 (.slice (some ⟨w.heap.size, 0, none⟩) k (k + 1)) k (gds Z k)) := hown
      have HB : Hid (Below w.heap.size w wr) := hbel
      have hix := idx_b bad hb0
      rw [Int.tmod_eq_emod_of_nonneg hb0] at hix
      clear hown hbel
      obtain ⟨q, hq, hqk⟩ : ∃ q : Nat, pos % ((k : Int) + 1) = q ∧ q ≤ k := by
        have q0 : 0 ≤ pos % ((k : Int) + 1) := Int.emod_nonneg _ (by omega)
        have q1 : pos % ((k : Int) + 1) < (k : Int) + 1 := Int.emod_lt_of_pos _ (by omega)
        exact ⟨(pos % ((k : Int) + 1)).toNat, by omega, by omega⟩
      have hne : ¬ ((k : Int) + 1 = 0) := by omega
      go_wp2_with (at_builtin; (refine wpList_append_fits _ rfl (.tmp 57) (.tmp 58) 24 rfl w.heap.size 5 i0 1 Yba.underlying24 HI.out HZ1.out w.heap.size k (k+1) _ rfl (World.ownsRow.alloc HOWN.out _) ⟨wr.heap.size,0,none⟩ 1 1 [.int .u8 0] rfl rfl (cell_one_new _ _ _) (by simp [Value.oneCell']) (by omega) ?_; intro w2 own2 gr2))
      have hbel2 : Below w.heap.size w w2 := (HB.out.alloc HB.out.size _).grown gr2 (by have := HB.out.size; simp; omega) (by simp)
      have hx2 : ∀ i, i < k + 1 → ∃ z : Int, (gds Z k ++ [.int .u8 0])[i]? = some (.int .u8 z) ∧ 0 ≤ z ∧ z ≤ 255 := fun i hi => by
        rcases Nat.lt_or_ge i k with h | h
        · refine ⟨_, ?_, (gb_good (HZ.out i h).2.1).2⟩
          rw [List.getElem?_append_left (by simp [gds]; omega)]
          exact gds_at Z h
        · obtain rfl : i = k := by omega
          exact ⟨0, by simp [gds], by omega, by omega⟩
      clear hq hne gr2
      go_loopw [16] (fun j wr => ∃ (j' : Nat) (xs : List Value), j = .int .i64 j' ∧ q ≤ j' ∧ j' ≤ k ∧ wr.ownsRow w.heap.size 5 1 (.slice (some ⟨w.heap.size, 0, none⟩) (k + 1) (k + 1)) (k + 1) xs ∧ (∀ i, i < k + 1 → ∃ z : Int, xs[i]? = some (.int .u8 z) ∧ 0 ≤ z ∧ z ≤ 255) ∧ Below w.heap.size w wr) (fun j _ => (intOf j).toNat)
      case atStart => exact ⟨k, _, rfl, hqk, Nat.le_refl _, own2, hx2, hbel2⟩
      case round =>
        obtain ⟨j, xs, rfl, hqj, hjk, own3, hx3, hbel3⟩ := hrel
        clear own2 hx2 hbel2
        have HOWN3 : Hid (wr.ownsRow w.heap.size 5 1 (.slice (some ⟨w.heap.size, 0, none⟩) (k + 1) (k + 1)) (k + 1) xs) := own3
        have HX3 : Hid (∀ i, i < k + 1 → ∃ z : Int, xs[i]? = some (.int .u8 z) ∧ 0 ≤ z ∧ z ≤ 255) := hx3
        have HB3 : Hid (Below w.heap.size w wr) := hbel3
        have hlen : Hid (xs.length = k + 1) := by
          have := own3.1
          show _ = _
          omega
        clear hx3 hbel3
        by_cases hlt : q < j
        · obtain ⟨m, rfl⟩ : ∃ m, j = m + 1 := ⟨j - 1, by omega⟩
          obtain ⟨zm, x0, zm0, zm1⟩ := HX3.out m (by omega)
          obtain ⟨zj, x1, _, _⟩ := HX3.out (m + 1) (by omega)
          have c0 : wr.cell? ⟨w.heap.size, m, none⟩ = some (.int .u8 zm) := by rw [World.ownsRow.cellAt own3 m (by omega), x0]
          have c1 : wr.cell? ⟨w.heap.size, m + 1, none⟩ = some (.int .u8 zj) := by rw [World.ownsRow.cellAt own3 (m + 1) (by omega), x1]
          have f1 := World.ownsRow.frozenAt own3 (m + 1)
          clear own3 x0 x1
          go_wp2
          go_roundw
          case rel =>
            refine ⟨m, xs.set (m + 1) (.int .u8 zm), by go_num, by omega, by omega, (World.ownsRow.stored HOWN3.out (m + 1) _).1, fun i hi => ?_, HB3.out.setCell (Nat.le_refl _) _⟩
            by_cases h : i = m + 1
            · subst h
              exact ⟨zm, by rw [List.getElem?_set_self (by rw [hlen.out]; omega)], zm0, zm1⟩
            · rw [List.getElem?_set_ne (by omega)]
              exact HX3.out i hi
          case measure => simp [intOf]
        · obtain rfl : q = j := by omega
          obtain ⟨L, hLq, hL⟩ : ∃ L : Nat → Int, L q = bb bad ∧ ∀ i, i < k + 1 → (xs.set q (.int .u8 (bb bad)))[i]? = some (.int .u8 (L i)) ∧ 0 ≤ L i ∧ L i ≤ 255 := by
            refine ⟨fun i => if i = q then bb bad else intOf (xs.getD i (.int .u8 0)), by simp, fun i hi => ?_⟩
            by_cases h : i = q
            · subst h
              exact ⟨by rw [List.getElem?_set_self (by rw [hlen.out]; omega)]; simp, by simpa using (bb_bad hb0).2⟩
            · obtain ⟨z, hz, z0, z1⟩ := HX3.out i hi
              rw [List.getElem?_set_ne (by omega)]
              simp [h, hz, intOf, z0, z1]
          have hst := World.ownsRow.stored own3 q (.int .u8 (bb bad))
          have hconv := conv_back L (k + 1) w.heap.size (k + 1) (wr.setCell ⟨w.heap.size, q, none⟩ (.int .u8 (bb bad))) fun i hi => ⟨by rw [World.ownsRow.cellAt hst.1 i (by omega)]; exact (hL i hi).1, (hL i hi).2⟩
          have hsz := strOf_size L (k + 1)
          have hip := isplain (strOf L (k + 1)) (wr.setCell ⟨w.heap.size, q, none⟩ (.int .u8 (bb bad))) (by omega)
          have hall : allPl (strOf L (k + 1)) (k + 1) = false := allPl_not (p := q) (by omega) (by rw [hLq]; exact (bb_bad hb0).1) (hL q (by omega)).2.1 (hL q (by omega)).2.2
          rw [hsz, hall] at hip
          obtain ⟨zq, xq, _, _⟩ := HX3.out q (by omega)
          have cq : wr.cell? ⟨w.heap.size, q, none⟩ = some (.int .u8 zq) := by rw [World.ownsRow.cellAt own3 q (by omega), xq]
          have fq := World.ownsRow.frozenAt own3 q
          have HB4 : Hid (Below w.heap.size w (wr.setCell ⟨w.heap.size, q, none⟩ (.int .u8 (bb bad)))) := HB3.out.setCell (Nat.le_refl _) _
          clear own3 xq hst hL hLq hsz hall
          go_wp2_with (go_at_call 6; refine hip.mono ?_; rintro e w' ⟨rfl, hb⟩)
          go_ret
          exact ⟨rfl, HB4.out.trans (hb.mono HB4.out.size)⟩

theorem built_far (a : Option Addr) (n c : Nat) (ins : Bool) (bad pos : Int) (w : World) (hn : 1024 < n) :
    Calls Yba.prog 4 #[.slice a n c, .bool ins, .int .u8 bad, .int .u8 pos] w fun e w' => e = .returned (.bool true) ∧ Below w.heap.size w w' := by
  have h' : (1024 : Int) < n := by omega
  go_enter Yba.func4, Yba.ntmps4
  go_wp2
  go_ret
  exact ⟨rfl, Below.refl _ _⟩
end Go.Proofs.Ybulkysw
