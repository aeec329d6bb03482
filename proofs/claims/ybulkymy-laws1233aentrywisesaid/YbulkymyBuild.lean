/-
  zzs1233abuild: the map that a list of entries builds.
-/
import Derived.Test.YbulkymyPlain
import Derived.Deep.LoopGhost
import Derived.Deep.RegionWith
namespace Go.Proofs.Ybulkymy
open Go.RowKit Go.Maps
theorem own4 {w : World} {R : Value → Option (DataW Unit × List MemPlace)} {b n : Nat} {f : Nat → Option Int} (h : w.ownsMap Yba.prog 9 R b n (dat f)) : w.ownsMap Yba.prog 9 R b 4 (dat f) := by
  obtain ⟨es, clock, hb, F, hs, hD⟩ := h
  refine ⟨es, clock, hb, F, ?_, hD⟩
  have h1 : Maps.size (dat f) = es.size := by rw [hD]; simp [Maps.size, length_sorted]
  rw [← h1, size_dat]
  unfold b2n
  cases (f 0).isSome <;> cases (f 1).isSome <;> cases (f 2).isSome <;> cases (f 3).isSome <;> decide
theorem own4B {w : World} {R : Value → Option (DataW Unit × List MemPlace)} {b n : Nat} {g : Nat → Bool} (h : w.ownsMap Yba.prog 9 R b n (datB g)) : w.ownsMap Yba.prog 9 R b 4 (datB g) := by
  obtain ⟨es, clock, hb, F, hs, hD⟩ := h
  refine ⟨es, clock, hb, F, ?_, hD⟩
  have h1 : Maps.size (datB g) = es.size := by rw [hD]; simp [Maps.size, length_sorted]
  rw [← h1]
  unfold datB
  cases g 0 <;> cases g 1 <;> cases g 2 <;> cases g 3 <;> decide

/-- what the entries build, one after the other -/
def bld (N C : Nat → Int) : Nat → Nat → Option Int
  | 0 => fun _ => none
  | k + 1 => upd (bld N C k) (N k % 4).toNat (C k)

set_option maxHeartbeats 1000000 in
theorem build_any (b o n c : Nat) (N C : Nat → Int) (w : World) (hn : n ≤ 1024) (hnc : n ≤ c)
    (hN : ∀ i, i < n → w.cell? ⟨b, o + i * 2, none⟩ = some (.int .u8 (N i)) ∧ w.cell? ⟨b, o + i * 2 + 1, none⟩ = some (.int .u64 (C i)) ∧ 0 ≤ N i ∧ N i ≤ 255 ∧ (Lit.int .u64 (C i)).wf = true) :
    Calls Yba.prog 6 #[.slice (some ⟨b, o, none⟩) n c] w fun e w' => e = .returned (.map (some w.heap.size)) ∧ w'.ownsMap Yba.prog 9 (plainElem Yba.prog 30) w.heap.size n (dat (bld N C n)) ∧ Below w.heap.size w w' := by
  have hmm := @run_makeMap Yba.prog
  have HN : Hid (∀ i, i < n → w.cell? ⟨b, o + i * 2, none⟩ = some (.int .u8 (N i)) ∧ w.cell? ⟨b, o + i * 2 + 1, none⟩ = some (.int .u64 (C i)) ∧ 0 ≤ N i ∧ N i ≤ 255 ∧ (Lit.int .u64 (C i)).wf = true) := hN
  clear hN
  go_enter Yba.func6, Yba.ntmps6
  go_wp2
  go_loopw [9] (fun i wr => ∃ k : Nat, i = .int .i64 k ∧ k ≤ n ∧ wr.ownsMap Yba.prog 9 (plainElem Yba.prog 30) w.heap.size k (dat (bld N C k)) ∧ Below w.heap.size w wr) (fun i _ => n - (intOf i).toNat)
  case atStart => exact ⟨0, rfl, Nat.zero_le _, World.ownsMap_made _ _ _ _, (Below.refl _ _).alloc (Nat.le_refl _) _⟩
  case round =>
    obtain ⟨k, rfl, hk, hown, hbel⟩ := hrel
    by_cases hlt : k < n
    · obtain ⟨e0, e1, e2, e3, e4⟩ := HN.out k hlt
      have d0 := cell_later hbel e0
      have d1 := cell_later hbel e1
      clear e0 e1
      obtain ⟨w1, hup, own1, gr1⟩ := (hown.alloc (.cells #[.int .u8 (N k), .int .u64 (C k)] 32)).drew.update law9 Yba.underlying26 (by unfold maxLen; omega) (keyOf_nm (N k % 4).toNat) (plainElem_int Yba.underlying30 e4)
      have OWN : Hid _ := own1
      have GR : Hid _ := gr1
      have HB : Hid _ := hbel
      clear own1 gr1 hbel hown
      go_wp2_with fail
      go_region_with (go_at_call 8; refine (name_any _ _ e2 e3).mono ?_; rintro e w' ⟨rfl, rfl⟩)
      all_goals
        go_wp2
        go_roundw
        case rel =>
          refine ⟨k + 1, by go_num, by omega, ?_, ?_⟩
          · rw [show dat (bld N C (k + 1)) = (dat (bld N C k)).put (key (N k % 4).toNat) (.lit (.int .u64 (C k))) from (put_dat _ _ (by omega) _).symm]
            exact OWN.out
          · exact (((HB.out.alloc HB.out.size _).drew).grown GR.out (by have := HB.out.size; simp; omega) (by simp))
        case measure => simp [intOf]; omega
    · go_wp2
      obtain rfl : k = n := by omega
      go_ret
      exact ⟨rfl, hown, hbel⟩

set_option maxHeartbeats 400000 in
theorem build_none (a : Option Addr) (c : Nat) (N C : Nat → Int) (w : World) :
    Calls Yba.prog 6 #[.slice a 0 c] w fun e w' => e = .returned (.map (some w.heap.size)) ∧ w'.ownsMap Yba.prog 9 (plainElem Yba.prog 30) w.heap.size 0 (dat (bld N C 0)) ∧ Below w.heap.size w w' := by
  have hmm := @run_makeMap Yba.prog
  go_enter Yba.func6, Yba.ntmps6
  go_wp2
  refine wp_loop_rounds 1 ?_
  rw [rounds_succ]
  go_wp2
  go_ret
  exact ⟨rfl, World.ownsMap_made _ _ _ _, (Below.refl _ _).alloc (Nat.le_refl _) _⟩

/-- A list of entries as it lies: nil or not. -/
def Ents (w : World) (a : Option Addr) (n c : Nat) (N C : Nat → Int) : Prop :=
  n ≤ c ∧ (0 < n → ∃ b o, a = some ⟨b, o, none⟩ ∧ ∀ i, i < n → w.cell? ⟨b, o + i * 2, none⟩ = some (.int .u8 (N i)) ∧ w.cell? ⟨b, o + i * 2 + 1, none⟩ = some (.int .u64 (C i)) ∧ 0 ≤ N i ∧ N i ≤ 255 ∧ (Lit.int .u64 (C i)).wf = true)
theorem Ents.later {w W : World} {a : Option Addr} {n c : Nat} {N C : Nat → Int} (h : Ents w a n c N C) (hb : Below w.heap.size w W) : Ents W a n c N C := by
  refine ⟨h.1, fun hp => ?_⟩
  obtain ⟨b, o, rfl, hc⟩ := h.2 hp
  exact ⟨b, o, rfl, fun i hi => ⟨cell_later hb (hc i hi).1, cell_later hb (hc i hi).2.1, (hc i hi).2.2⟩⟩

theorem build_all (a : Option Addr) (n c : Nat) (N C : Nat → Int) (w : World) (hn : n ≤ 1024) (h : Ents w a n c N C) :
    Calls Yba.prog 6 #[.slice a n c] w fun e w' => e = .returned (.map (some w.heap.size)) ∧ w'.ownsMap Yba.prog 9 (plainElem Yba.prog 30) w.heap.size 4 (dat (bld N C n)) ∧ Below w.heap.size w w' := by
  rcases Nat.eq_zero_or_pos n with h0 | h0
  · subst h0
    exact (build_none a c N C w).mono fun e w' h => ⟨h.1, own4 h.2.1, h.2.2⟩
  · obtain ⟨b, o, rfl, hc⟩ := h.2 h0
    exact (build_any b o n c N C w hn h.1 hc).mono fun e w' h => ⟨h.1, own4 h.2.1, h.2.2⟩
end Go.Proofs.Ybulkymy
