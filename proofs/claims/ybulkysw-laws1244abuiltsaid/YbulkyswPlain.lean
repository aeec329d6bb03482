/-
  zzs1244aplain and isPlainName.
-/
import Derived.Test.YbulkyswRows
import Derived.WalkKit
import Derived.Below
import Derived.Laws.IdiomStrings
import Derived.Deep.Draws
namespace Go.Proofs.Ybulkysw
open Go.RowKit

def pl (c : Int) : Bool := decide (97 ≤ c ∧ c ≤ 122) || decide (65 ≤ c ∧ c ≤ 90) || decide (48 ≤ c ∧ c ≤ 57) || decide (c = 95) || decide (c = 45)

set_option maxRecDepth 100000 in
theorem plain_any (c : Int) (w : World) : Calls Yba.prog 5 #[.int .u8 c] w fun e w' => e = .returned (.bool (pl c)) ∧ w' = w := by
  by_cases h : pl c = true
  · rw [h]
    rcases (show (97 ≤ c ∧ c ≤ 122) ∨ (65 ≤ c ∧ c ≤ 90) ∨ (48 ≤ c ∧ c ≤ 57) ∨ c = 95 ∨ c = 45 from by simpa [pl, or_assoc] using h) with ⟨a, b⟩ | ⟨a, b⟩ | ⟨a, b⟩ | rfl | rfl
    all_goals
      clear h
      go_enter Yba.func5, Yba.ntmps5
      go_wp2
      all_goals
        go_ret
        exact ⟨rfl, rfl⟩
  · have hf : pl c = false := by simpa using h
    rw [hf]
    have hn : ¬ (97 ≤ c ∧ c ≤ 122) ∧ ¬ (65 ≤ c ∧ c ≤ 90) ∧ ¬ (48 ≤ c ∧ c ≤ 57) ∧ ¬ c = 95 ∧ ¬ c = 45 := by simpa [pl, and_assoc] using hf
    clear h hf
    obtain ⟨n1, n2, n3, n4, n5⟩ := hn
    have b4 : (c == 95) = false := by simp [n4]
    have b5 : (c == 45) = false := by simp [n5]
    go_enter Yba.func5, Yba.ntmps5
    go_wp2
    all_goals
      first
        | (exfalso; omega)
        | (go_ret; exact ⟨rfl, rfl⟩)
/-- a string's byte -/
def byt (s : ByteArray) (i : Nat) : Int := ((s.data[i]?).getD 0).toNat
theorem conv_bytes (s : ByteArray) (w : World) : ∃ cap w1, (convert 9 24 (.string s)).run Yba.prog w = .ok (.slice (some ⟨w.heap.size, 0, none⟩) s.size cap) w1 ∧ s.size ≤ cap ∧ (∀ i, i < s.size → w1.cell? ⟨w.heap.size, i, none⟩ = some (.int .u8 (byt s i))) ∧ Below w.heap.size w w1 := by
  refine ⟨_, _, run_bytes_of_string w 9 24 5 s Yba.underlying9 Yba.underlying24 Yba.underlying5, grownCap_ge _ _ _ _, fun i hi => ?_, ((Below.refl _ _).drew).alloc (Nat.le_refl _) _⟩
  have hi' : i < s.data.size := hi
  have := bytesRow_at s (grownCap w s.size 0 5) i hi'
  have e : byt s i = (s.data[i].toNat : Int) := by unfold byt; rw [Array.getElem?_eq_getElem hi']; rfl
  rw [e, ← this]
  have hh : (w.drew.alloc (.cells (bytesRow s (grownCap w s.size 0 5)) 5 ((bytesRow s (grownCap w s.size 0 5)).size, (bytesRow s (grownCap w s.size 0 5)).size + 1))).heap[w.heap.size]? = some (.cells (bytesRow s (grownCap w s.size 0 5)) 5 ((bytesRow s (grownCap w s.size 0 5)).size, (bytesRow s (grownCap w s.size 0 5)).size + 1)) := by
    show (w.heap.push _)[w.heap.size]? = _
    simp
  unfold World.cell?
  rw [hh]
  rfl

theorem not_empty (s : ByteArray) (h : 0 < s.size) : s.toList.isEmpty = false := by
  rw [ByteArray.toList_eq]
  cases hh : s.data.toList with
  | nil =>
    have h2 : s.data.toList.length = 0 := by rw [hh]; rfl
    have h3 : s.data.size = 0 := by simpa using h2
    exact absurd h (by show ¬ 0 < s.data.size; omega)
  | cons => rfl
theorem is_empty (s : ByteArray) (h : s.size = 0) : s = ⟨#[]⟩ := by
  cases s with
  | mk d => congr 1; exact Array.size_eq_zero_iff.1 h
/-- all of the first k bytes are plain -/
def allPl (s : ByteArray) : Nat → Bool
  | 0 => true
  | k + 1 => allPl s k && pl (byt s k)
theorem allPl_mono (s : ByteArray) {k : Nat} (h : allPl s k = false) : ∀ n, k ≤ n → allPl s n = false := by
  intro n hn
  induction n with
  | zero => obtain rfl : k = 0 := by omega
            exact h
  | succ n ih =>
    rcases Nat.lt_or_ge n k with h1 | h1
    · obtain rfl : k = n + 1 := by omega
      exact h
    · simp [allPl, ih h1]

set_option maxHeartbeats 1000000 in
set_option maxRecDepth 100000 in
theorem isplain (s : ByteArray) (w : World) (hs : s.size ≤ 4096) : Calls Yba.prog 6 #[.string s] w fun e w' => e = .returned (.bool (allPl s s.size && decide (0 < s.size))) ∧ Below w.heap.size w w' := by
  obtain ⟨cap, w1, hconv, hcap, hcells, hb1⟩ := conv_bytes s w
  have HC : Hid (∀ i, i < s.size → w1.cell? ⟨w.heap.size, i, none⟩ = some (.int .u8 (byt s i))) := hcells
  obtain ⟨n, hn⟩ : ∃ n, n = s.size := ⟨_, rfl⟩
  rw [← hn] at hs hcap hconv ⊢
  have HN : Hid (n = s.size) := hn
  clear hcells hn
  go_enter Yba.func6, Yba.ntmps6
  go_wp2
  go_loop [9] (fun i => ∃ k : Nat, i = .int .i64 k ∧ k ≤ n ∧ Hid (allPl s k = true)) (fun i => n - (intOf i).toNat)
  case atStart => exact ⟨0, rfl, Nat.zero_le _, rfl⟩
  case round =>
    obtain ⟨k, rfl, hk, hall⟩ := hrel
    by_cases hlt : k < n
    · have c0 := HC.out k (by rw [← HN.out]; exact hlt)
      obtain ⟨c, hc⟩ : ∃ c, c = byt s k := ⟨_, rfl⟩
      rw [← hc] at c0
      have HCC : Hid (c = byt s k) := hc
      clear hc
      by_cases h : pl c = true
      · have hnext : Hid (allPl s (k + 1) = true) := by show _ = _; simp [allPl, hall.out, ← HCC.out, h]
        rcases (show (97 ≤ c ∧ c ≤ 122) ∨ (65 ≤ c ∧ c ≤ 90) ∨ (48 ≤ c ∧ c ≤ 57) ∨ c = 95 ∨ c = 45 from by simpa [pl, or_assoc] using h) with ⟨a, b⟩ | ⟨a, b⟩ | ⟨a, b⟩ | rfl | rfl
        all_goals
          clear h
          go_wp2
          all_goals
            go_round
            case rel => exact ⟨k + 1, by go_num, by omega, hnext⟩
            case measure => simp [intOf]; omega
      · have hf : pl c = false := by simpa using h
        have hn' : ¬ (97 ≤ c ∧ c ≤ 122) ∧ ¬ (65 ≤ c ∧ c ≤ 90) ∧ ¬ (48 ≤ c ∧ c ≤ 57) ∧ ¬ c = 95 ∧ ¬ c = 45 := by simpa [pl, and_assoc] using hf
        have hend : Hid (allPl s n = false) := allPl_mono s (k := k + 1) (by simp [allPl, ← HCC.out, hf]) n (by omega)
        clear h hf
        obtain ⟨n1, n2, n3, n4, n5⟩ := hn'
        have b4 : (c == 95) = false := by simp [n4]
        have b5 : (c == 45) = false := by simp [n5]
        have b6 : (c != 95) = true := by simp [n4]
        have b7 : (c != 45) = true := by simp [n5]
        rcases (show c < 97 ∨ (97 ≤ c ∧ 122 < c) from by omega) with g1 | ⟨g1, g1'⟩ <;> rcases (show c < 65 ∨ (65 ≤ c ∧ 90 < c) from by omega) with g2 | ⟨g2, g2'⟩ <;> rcases (show c < 48 ∨ (48 ≤ c ∧ 57 < c) from by omega) with g3 | ⟨g3, g3'⟩
        all_goals
          first
            | (exfalso; omega)
            | (clear n1 n2 n3; go_wp2; all_goals first | (go_ret; exact ⟨by rw [hend.out]; rfl, hb1⟩) | (exfalso; rename_i hh; simp at hh; omega))
    · obtain rfl : k = n := by omega
      by_cases h0 : 0 < k
      · have hem : s.toList.isEmpty = false := not_empty s (by rw [← HN.out]; exact h0)
        go_wp2
        go_ret
        exact ⟨by rw [hall.out]; rfl, hb1⟩
      · have hs' : s = ⟨#[]⟩ := is_empty s (by rw [← HN.out]; omega)
        go_wp2
        go_ret
        exact ⟨rfl, hb1⟩
end Go.Proofs.Ybulkysw
