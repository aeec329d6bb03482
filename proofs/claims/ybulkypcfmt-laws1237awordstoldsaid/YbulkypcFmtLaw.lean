/-
  LawS1237AWords: the walk.
-/
import Derived.Test.YbulkypcFmtWords
namespace Go.Proofs.YbulkypcFmt
open Go.Shelf Go.RowKit Go.Lib Go.Stop

def Strs (w : World) (B : Nat) (v : Value) (n : Nat) (S : Nat → ByteArray) : Prop :=
  ∃ a c, v = .slice a n c ∧ n ≤ c ∧ (0 < n → ∃ b o, a = some ⟨b, o, none⟩ ∧ b < B ∧ ∀ i, i < n → w.cell? ⟨b, o + i, none⟩ = some (.string (S i)))
theorem Strs.later {w W : World} {B : Nat} {v : Value} {n : Nat} {S : Nat → ByteArray} (h : Strs w B v n S) (hb : Below B w W) : Strs W B v n S := by
  obtain ⟨a, c, rfl, h1, h2⟩ := h
  refine ⟨a, c, rfl, h1, fun hp => ?_⟩
  obtain ⟨b, o, rfl, hlt, hc⟩ := h2 hp
  exact ⟨b, o, rfl, hlt, fun i hi => (hb.cell (p := ⟨b, o + i, none⟩) hlt).trans (hc i hi)⟩
def nms (S : Nat → ByteArray) (i : Nat) : List Value := (List.range i).map fun j => .string (S j)
theorem nms_length (S : Nat → ByteArray) (n : Nat) : (nms S n).length = n := by simp [nms]
theorem nms_take (S : Nat → ByteArray) (n : Nat) : ((((List.range n).map S).take n).map Value.string) = nms S n := by
  unfold nms
  rw [List.take_of_length_le (by simp), List.map_map]
  rfl
theorem clone_any (B : Nat) (a : Option Addr) (n c : Nat) (S : Nat → ByteArray) (W : World) (hn : n ≤ 1024) (h : Strs W B (.slice a n c) n S) :
    Calls Ybaf.prog 5 #[.slice a n c] W fun e w' => ∃ v', e = .returned v' ∧ w'.ownsRow W.heap.size 9 1 v' n (nms S n) ∧ Below W.heap.size W w' := by
  obtain ⟨a', c', heq, hc, hst⟩ := h
  obtain ⟨rfl, rfl⟩ : a = a' ∧ c = c' := by simpa using heq
  rcases Nat.eq_zero_or_pos n with h0 | h0
  · subst h0
    cases a with
    | none => exact (Any.slices_Clone_string_nil Ybaf.lays16 0 c W).mono fun e w' ⟨h1, h2⟩ => by subst h2; exact ⟨_, h1, World.ownsRow_nil _ _ _ _, Below.refl _ _⟩
    | some a => exact (Any.slices_Clone_string_zero Ybaf.lays16 a c W).mono fun e w' ⟨v', h1, h2, _, h3⟩ => ⟨v', h1, h2, h3⟩
  · obtain ⟨b, o, rfl, _, hcl⟩ := hst h0
    refine (Any.slices_Clone_string Ybaf.lays16 b o n c ((List.range n).map S) W (by simp) (by omega) ?_).mono fun e w' ⟨v', h1, h2, _, h3⟩ => ⟨v', h1, by rw [← nms_take]; exact h2, h3⟩
    intro j hj
    have hj' : j < n := by simpa using hj
    rw [hcl j hj']
    simp [List.getD, hj']
theorem at_low (S : Nat → ByteArray) (n : Nat) (t : List Value) {k : Nat} (hk : k < n) : (nms S n ++ t)[k]? = some (.string (S k)) := by
  rw [List.getElem?_append_left (by rw [nms_length]; exact hk)]
  simp [nms, hk]
theorem at_high (S : Nat → ByteArray) (n : Nat) (t : List Value) (j : Nat) : (nms S n ++ t)[n + j]? = t[j]? := by
  rw [List.getElem?_append_right (by rw [nms_length]; omega), nms_length]
  congr 1
  omega
theorem row_head {w : World} {base n : Nat} {v : Value} {xs : List Value} (h : w.ownsRow base 9 1 v n xs) (hn : 0 < n) : ∃ g c, v = .slice (some ⟨g, 0, none⟩) n c ∧ n ≤ c ∧ ∀ j, j < n → w.cell? ⟨g, j, none⟩ = xs[j]? := by
  rcases h.2 with ⟨_, h'⟩ | ⟨g, cap, cur, rfl, _, _, hc, _⟩
  · omega
  · exact ⟨g, cap, rfl, hc, fun j hj => h.cellAt j (by omega)⟩

theorem law_far (a : Option Addr) (n c : Nat) (x : Int) (key value origin : ByteArray) (w : World) (hn : 1024 < n) :
    Calls Ybaf.prog 3 #[.slice a n c, .int .u8 x, .string key, .string value, .string origin] w fun e w' => e = .returned (.bool true) ∧ Below w.heap.size w w' := by
  have h' : (1024 : Int) < n := by omega
  go_enter Ybaf.func3, Ybaf.ntmps3
  go_wp2
  go_ret
  exact ⟨rfl, Below.refl _ _⟩

set_option maxHeartbeats 2000000 in
set_option maxRecDepth 100000 in
theorem law_2 (F : Interp) (a : Option Addr) (n c : Nat) (S : Nat → ByteArray) (key value origin : ByteArray) (w : World) (hn : n ≤ 1024) (hG : Good F w) (hS : Strs w w.heap.size (.slice a n c) n S) :
    Calls Ybaf.prog 3 #[.slice a n c, .int .u8 2, .string key, .string value, .string origin] w fun e w' => e = .returned (.bool true) ∧ Below w.heap.size w w' := by
  have h' : ¬ (1024 : Int) < n := by omega
  have HG : Hid (Good F w) := hG
  have hw0 : 0 < w.heap.size := hG.2.1
  have HS : Hid (Strs w w.heap.size (.slice a n c) n S) := hS
  have hnm : ∀ W, Calls Ybaf.prog 7 #[.int .u8 2] W fun e w' => e = .returned (.tuple #[.string (nmB 2), .bool true]) ∧ w' = W := fun W => by exact name_any 2 W
  clear hG hS
  go_enter Ybaf.func3, Ybaf.ntmps3
  go_wp2_with (first
    | (go_at_call 5; refine (clone_any w.heap.size a n c S w hn HS.out).mono ?_; rintro e w1 ⟨ov, rfl, hov, hb1⟩; obtain ⟨va, vc, rfl⟩ := row_slice hov; have HO1 : Hid (w1.ownsRow w.heap.size 9 1 (.slice va n vc) n (nms S n)) := hov; have HB1 : Hid (Below w.heap.size w w1) := hb1; have hs1 := hb1.size; clear hov hb1)
    | (go_at_call 6; refine (words_any F 2 key value origin va vc n w.heap.size (nms S n) _ (by decide) (by decide) hn hw0 (by simp; omega) (HG.out.later hw0 (HB1.out.alloc hs1 _)) (HO1.out.alloc _)).mono ?_; rintro e w3 ⟨got, s, rfl, hs, hb3, hrow⟩; obtain rfl := hs (by decide) (by decide); rw [if_pos (by decide), if_pos (by decide)] at hrow; obtain ⟨g, gc, rfl, hgc, hcells⟩ := row_head hrow (by omega); have HC : Hid (∀ j, j < n + 5 → w3.cell? ⟨g, j, none⟩ = (nms S n ++ ([.string origin, .string ⟨#[45]⟩, .string (nmB 2), .string key] ++ [.string value]))[j]?) := (by rw [← List.append_assoc]; exact hcells); have HB3 : Hid (Below w.heap.size w w3) := (HB1.out.alloc hs1 _).trans hb3; clear hrow hb3 hcells))
  go_loopw [16] (fun i wr => ∃ (k q : Nat), i = .int .i64 k ∧ k ≤ n ∧ wr = w3.drewN q) (fun i _ => n - (RowKit.intOf i).toNat)
  case atStart => exact ⟨0, 0, rfl, Nat.zero_le _, rfl⟩
  case round =>
    obtain ⟨k, q, rfl, hk, rfl⟩ := hrel
    by_cases hlt : k < n
    · obtain ⟨a', c', heq, hac, hst⟩ := HS.out.later HB3.out
      obtain ⟨rfl, rfl⟩ : a = a' ∧ c = c' := by simpa using heq
      obtain ⟨pb, po, rfl, _, hpc⟩ := hst (by omega)
      have d0 := hpc k hlt
      have d1 : w3.cell? ⟨g, k, none⟩ = some (.string (S k)) := (HC.out k (by omega)).trans (at_low S n _ hlt)
      clear hpc hst heq
      go_wp2_with fail
      go_region
      all_goals
        go_wp2
        go_roundw
        case rel => exact ⟨k + 1, q + 1, by go_num, by omega, rfl⟩
        case measure => simp [RowKit.intOf]; omega
    · obtain rfl : k = n := by omega
      have t0 : w3.cell? ⟨g, k, none⟩ = some (.string origin) := (HC.out k (by omega)).trans (at_high S k _ 0)
      have t1 : w3.cell? ⟨g, k + 1, none⟩ = some (.string ⟨#[45]⟩) := (HC.out (k + 1) (by omega)).trans (at_high S k _ 1)
      have t2 : w3.cell? ⟨g, k + 2, none⟩ = some (.string (nmB 2)) := (HC.out (k + 2) (by omega)).trans (at_high S k _ 2)
      have t3 : w3.cell? ⟨g, k + 3, none⟩ = some (.string key) := (HC.out (k + 3) (by omega)).trans (at_high S k _ 3)
      have t4 : w3.cell? ⟨g, k + 4, none⟩ = some (.string value) := (HC.out (k + 4) (by omega)).trans (at_high S k _ 4)
      go_wp2_with (go_at_call 7; refine (hnm _).mono ?_; rintro e w' ⟨rfl, rfl⟩)
      go_ret
      exact ⟨rfl, HB3.out.trans ⟨rfl, rfl, rfl, Nat.le_refl _, fun _ _ => rfl⟩⟩

set_option maxHeartbeats 2000000 in
set_option maxRecDepth 100000 in
theorem law_3 (F : Interp) (a : Option Addr) (n c : Nat) (S : Nat → ByteArray) (key value origin : ByteArray) (w : World) (hn : n ≤ 1024) (hG : Good F w) (hS : Strs w w.heap.size (.slice a n c) n S) :
    Calls Ybaf.prog 3 #[.slice a n c, .int .u8 3, .string key, .string value, .string origin] w fun e w' => e = .returned (.bool true) ∧ Below w.heap.size w w' := by
  have h' : ¬ (1024 : Int) < n := by omega
  have HG : Hid (Good F w) := hG
  have hw0 : 0 < w.heap.size := hG.2.1
  have HS : Hid (Strs w w.heap.size (.slice a n c) n S) := hS
  have hnm : ∀ W, Calls Ybaf.prog 7 #[.int .u8 3] W fun e w' => e = .returned (.tuple #[.string (nmB 3), .bool true]) ∧ w' = W := fun W => by exact name_any 3 W
  clear hG hS
  go_enter Ybaf.func3, Ybaf.ntmps3
  go_wp2_with (first
    | (go_at_call 5; refine (clone_any w.heap.size a n c S w hn HS.out).mono ?_; rintro e w1 ⟨ov, rfl, hov, hb1⟩; obtain ⟨va, vc, rfl⟩ := row_slice hov; have HO1 : Hid (w1.ownsRow w.heap.size 9 1 (.slice va n vc) n (nms S n)) := hov; have HB1 : Hid (Below w.heap.size w w1) := hb1; have hs1 := hb1.size; clear hov hb1)
    | (go_at_call 6; refine (words_any F 3 key value origin va vc n w.heap.size (nms S n) _ (by decide) (by decide) hn hw0 (by simp; omega) (HG.out.later hw0 (HB1.out.alloc hs1 _)) (HO1.out.alloc _)).mono ?_; rintro e w3 ⟨got, s, rfl, hs, hb3, hrow⟩; obtain rfl := hs (by decide) (by decide); rw [if_pos (by decide), if_pos (by decide)] at hrow; obtain ⟨g, gc, rfl, hgc, hcells⟩ := row_head hrow (by omega); have HC : Hid (∀ j, j < n + 5 → w3.cell? ⟨g, j, none⟩ = (nms S n ++ ([.string origin, .string ⟨#[45]⟩, .string (nmB 3), .string key] ++ [.string value]))[j]?) := (by rw [← List.append_assoc]; exact hcells); have HB3 : Hid (Below w.heap.size w w3) := (HB1.out.alloc hs1 _).trans hb3; clear hrow hb3 hcells))
  go_loopw [16] (fun i wr => ∃ (k q : Nat), i = .int .i64 k ∧ k ≤ n ∧ wr = w3.drewN q) (fun i _ => n - (RowKit.intOf i).toNat)
  case atStart => exact ⟨0, 0, rfl, Nat.zero_le _, rfl⟩
  case round =>
    obtain ⟨k, q, rfl, hk, rfl⟩ := hrel
    by_cases hlt : k < n
    · obtain ⟨a', c', heq, hac, hst⟩ := HS.out.later HB3.out
      obtain ⟨rfl, rfl⟩ : a = a' ∧ c = c' := by simpa using heq
      obtain ⟨pb, po, rfl, _, hpc⟩ := hst (by omega)
      have d0 := hpc k hlt
      have d1 : w3.cell? ⟨g, k, none⟩ = some (.string (S k)) := (HC.out k (by omega)).trans (at_low S n _ hlt)
      clear hpc hst heq
      go_wp2_with fail
      go_region
      all_goals
        go_wp2
        go_roundw
        case rel => exact ⟨k + 1, q + 1, by go_num, by omega, rfl⟩
        case measure => simp [RowKit.intOf]; omega
    · obtain rfl : k = n := by omega
      have t0 : w3.cell? ⟨g, k, none⟩ = some (.string origin) := (HC.out k (by omega)).trans (at_high S k _ 0)
      have t1 : w3.cell? ⟨g, k + 1, none⟩ = some (.string ⟨#[45]⟩) := (HC.out (k + 1) (by omega)).trans (at_high S k _ 1)
      have t2 : w3.cell? ⟨g, k + 2, none⟩ = some (.string (nmB 3)) := (HC.out (k + 2) (by omega)).trans (at_high S k _ 2)
      have t3 : w3.cell? ⟨g, k + 3, none⟩ = some (.string key) := (HC.out (k + 3) (by omega)).trans (at_high S k _ 3)
      have t4 : w3.cell? ⟨g, k + 4, none⟩ = some (.string value) := (HC.out (k + 4) (by omega)).trans (at_high S k _ 4)
      go_wp2_with (go_at_call 7; refine (hnm _).mono ?_; rintro e w' ⟨rfl, rfl⟩)
      go_ret
      exact ⟨rfl, HB3.out.trans ⟨rfl, rfl, rfl, Nat.le_refl _, fun _ _ => rfl⟩⟩

set_option maxHeartbeats 2000000 in
set_option maxRecDepth 100000 in
theorem law_1 (F : Interp) (a : Option Addr) (n c : Nat) (S : Nat → ByteArray) (key value origin : ByteArray) (w : World) (hn : n ≤ 1024) (hG : Good F w) (hS : Strs w w.heap.size (.slice a n c) n S) :
    Calls Ybaf.prog 3 #[.slice a n c, .int .u8 1, .string key, .string value, .string origin] w fun e w' => e = .returned (.bool true) ∧ Below w.heap.size w w' := by
  have h' : ¬ (1024 : Int) < n := by omega
  have HG : Hid (Good F w) := hG
  have hw0 : 0 < w.heap.size := hG.2.1
  have HS : Hid (Strs w w.heap.size (.slice a n c) n S) := hS
  have hnm : ∀ W, Calls Ybaf.prog 7 #[.int .u8 1] W fun e w' => e = .returned (.tuple #[.string (nmB 1), .bool true]) ∧ w' = W := fun W => by exact name_any 1 W
  clear hG hS
  go_enter Ybaf.func3, Ybaf.ntmps3
  go_wp2_with (first
    | (go_at_call 5; refine (clone_any w.heap.size a n c S w hn HS.out).mono ?_; rintro e w1 ⟨ov, rfl, hov, hb1⟩; obtain ⟨va, vc, rfl⟩ := row_slice hov; have HO1 : Hid (w1.ownsRow w.heap.size 9 1 (.slice va n vc) n (nms S n)) := hov; have HB1 : Hid (Below w.heap.size w w1) := hb1; have hs1 := hb1.size; clear hov hb1)
    | (go_at_call 6; refine (words_any F 1 key value origin va vc n w.heap.size (nms S n) _ (by decide) (by decide) hn hw0 (by simp; omega) (HG.out.later hw0 (HB1.out.alloc hs1 _)) (HO1.out.alloc _)).mono ?_; rintro e w3 ⟨got, s, rfl, hs, hb3, hrow⟩; obtain rfl := hs (by decide) (by decide); rw [if_neg (by decide), if_neg (by decide)] at hrow; obtain ⟨g, gc, rfl, hgc, hcells⟩ := row_head hrow (by omega); have HC : Hid (∀ j, j < n + 4 → w3.cell? ⟨g, j, none⟩ = (nms S n ++ ([.string origin, .string ⟨#[45]⟩, .string (nmB 1), .string key] ++ []))[j]?) := (by rw [← List.append_assoc]; exact hcells); have HB3 : Hid (Below w.heap.size w w3) := (HB1.out.alloc hs1 _).trans hb3; clear hrow hb3 hcells))
  go_loopw [16] (fun i wr => ∃ (k q : Nat), i = .int .i64 k ∧ k ≤ n ∧ wr = w3.drewN q) (fun i _ => n - (RowKit.intOf i).toNat)
  case atStart => exact ⟨0, 0, rfl, Nat.zero_le _, rfl⟩
  case round =>
    obtain ⟨k, q, rfl, hk, rfl⟩ := hrel
    by_cases hlt : k < n
    · obtain ⟨a', c', heq, hac, hst⟩ := HS.out.later HB3.out
      obtain ⟨rfl, rfl⟩ : a = a' ∧ c = c' := by simpa using heq
      obtain ⟨pb, po, rfl, _, hpc⟩ := hst (by omega)
      have d0 := hpc k hlt
      have d1 : w3.cell? ⟨g, k, none⟩ = some (.string (S k)) := (HC.out k (by omega)).trans (at_low S n _ hlt)
      clear hpc hst heq
      go_wp2_with fail
      go_region
      all_goals
        go_wp2
        go_roundw
        case rel => exact ⟨k + 1, q + 1, by go_num, by omega, rfl⟩
        case measure => simp [RowKit.intOf]; omega
    · obtain rfl : k = n := by omega
      have t0 : w3.cell? ⟨g, k, none⟩ = some (.string origin) := (HC.out k (by omega)).trans (at_high S k _ 0)
      have t1 : w3.cell? ⟨g, k + 1, none⟩ = some (.string ⟨#[45]⟩) := (HC.out (k + 1) (by omega)).trans (at_high S k _ 1)
      have t2 : w3.cell? ⟨g, k + 2, none⟩ = some (.string (nmB 1)) := (HC.out (k + 2) (by omega)).trans (at_high S k _ 2)
      have t3 : w3.cell? ⟨g, k + 3, none⟩ = some (.string key) := (HC.out (k + 3) (by omega)).trans (at_high S k _ 3)
      go_wp2_with (go_at_call 7; refine (hnm _).mono ?_; rintro e w' ⟨rfl, rfl⟩)
      go_ret
      exact ⟨rfl, HB3.out.trans ⟨rfl, rfl, rfl, Nat.le_refl _, fun _ _ => rfl⟩⟩

set_option maxHeartbeats 2000000 in
set_option maxRecDepth 100000 in
theorem law_4 (F : Interp) (a : Option Addr) (n c : Nat) (S : Nat → ByteArray) (key value origin : ByteArray) (w : World) (hn : n ≤ 1024) (hG : Good F w) (hS : Strs w w.heap.size (.slice a n c) n S) :
    Calls Ybaf.prog 3 #[.slice a n c, .int .u8 4, .string key, .string value, .string origin] w fun e w' => e = .returned (.bool true) ∧ Below w.heap.size w w' := by
  have h' : ¬ (1024 : Int) < n := by omega
  have HG : Hid (Good F w) := hG
  have hw0 : 0 < w.heap.size := hG.2.1
  have HS : Hid (Strs w w.heap.size (.slice a n c) n S) := hS
  have hnm : ∀ W, Calls Ybaf.prog 7 #[.int .u8 4] W fun e w' => e = .returned (.tuple #[.string (nmB 4), .bool true]) ∧ w' = W := fun W => by exact name_any 4 W
  clear hG hS
  go_enter Ybaf.func3, Ybaf.ntmps3
  go_wp2_with (first
    | (go_at_call 5; refine (clone_any w.heap.size a n c S w hn HS.out).mono ?_; rintro e w1 ⟨ov, rfl, hov, hb1⟩; obtain ⟨va, vc, rfl⟩ := row_slice hov; have HO1 : Hid (w1.ownsRow w.heap.size 9 1 (.slice va n vc) n (nms S n)) := hov; have HB1 : Hid (Below w.heap.size w w1) := hb1; have hs1 := hb1.size; clear hov hb1)
    | (go_at_call 6; refine (words_any F 4 key value origin va vc n w.heap.size (nms S n) _ (by decide) (by decide) hn hw0 (by simp; omega) (HG.out.later hw0 (HB1.out.alloc hs1 _)) (HO1.out.alloc _)).mono ?_; rintro e w3 ⟨got, s, rfl, hs, hb3, hrow⟩; obtain rfl := hs (by decide) (by decide); rw [if_neg (by decide), if_neg (by decide)] at hrow; obtain ⟨g, gc, rfl, hgc, hcells⟩ := row_head hrow (by omega); have HC : Hid (∀ j, j < n + 4 → w3.cell? ⟨g, j, none⟩ = (nms S n ++ ([.string origin, .string ⟨#[45]⟩, .string (nmB 4), .string key] ++ []))[j]?) := (by rw [← List.append_assoc]; exact hcells); have HB3 : Hid (Below w.heap.size w w3) := (HB1.out.alloc hs1 _).trans hb3; clear hrow hb3 hcells))
  go_loopw [16] (fun i wr => ∃ (k q : Nat), i = .int .i64 k ∧ k ≤ n ∧ wr = w3.drewN q) (fun i _ => n - (RowKit.intOf i).toNat)
  case atStart => exact ⟨0, 0, rfl, Nat.zero_le _, rfl⟩
  case round =>
    obtain ⟨k, q, rfl, hk, rfl⟩ := hrel
    by_cases hlt : k < n
    · obtain ⟨a', c', heq, hac, hst⟩ := HS.out.later HB3.out
      obtain ⟨rfl, rfl⟩ : a = a' ∧ c = c' := by simpa using heq
      obtain ⟨pb, po, rfl, _, hpc⟩ := hst (by omega)
      have d0 := hpc k hlt
      have d1 : w3.cell? ⟨g, k, none⟩ = some (.string (S k)) := (HC.out k (by omega)).trans (at_low S n _ hlt)
      clear hpc hst heq
      go_wp2_with fail
      go_region
      all_goals
        go_wp2
        go_roundw
        case rel => exact ⟨k + 1, q + 1, by go_num, by omega, rfl⟩
        case measure => simp [RowKit.intOf]; omega
    · obtain rfl : k = n := by omega
      have t0 : w3.cell? ⟨g, k, none⟩ = some (.string origin) := (HC.out k (by omega)).trans (at_high S k _ 0)
      have t1 : w3.cell? ⟨g, k + 1, none⟩ = some (.string ⟨#[45]⟩) := (HC.out (k + 1) (by omega)).trans (at_high S k _ 1)
      have t2 : w3.cell? ⟨g, k + 2, none⟩ = some (.string (nmB 4)) := (HC.out (k + 2) (by omega)).trans (at_high S k _ 2)
      have t3 : w3.cell? ⟨g, k + 3, none⟩ = some (.string key) := (HC.out (k + 3) (by omega)).trans (at_high S k _ 3)
      go_wp2_with (go_at_call 7; refine (hnm _).mono ?_; rintro e w' ⟨rfl, rfl⟩)
      go_ret
      exact ⟨rfl, HB3.out.trans ⟨rfl, rfl, rfl, Nat.le_refl _, fun _ _ => rfl⟩⟩

set_option maxHeartbeats 2000000 in
set_option maxRecDepth 100000 in
theorem law_o (F : Interp) (a : Option Addr) (n c : Nat) (S : Nat → ByteArray) (x : Int) (h0 : 0 ≤ x) (h1 : x ≤ 255) (hx : ¬ (1 ≤ x ∧ x ≤ 4)) (key value origin : ByteArray) (w : World) (hn : n ≤ 1024) (hG : Good F w) (hS : Strs w w.heap.size (.slice a n c) n S) :
    Calls Ybaf.prog 3 #[.slice a n c, .int .u8 x, .string key, .string value, .string origin] w fun e w' => e = .returned (.bool true) ∧ Below w.heap.size w w' := by
  have h' : ¬ (1024 : Int) < n := by omega
  have HG : Hid (Good F w) := hG
  have hw0 : 0 < w.heap.size := hG.2.1
  have HS : Hid (Strs w w.heap.size (.slice a n c) n S) := hS
  have HX : Hid (¬ (x = 2 ∨ x = 3)) := by show ¬ _; omega
  have q2 : ¬ x = 2 := by omega
  have q3 : ¬ x = 3 := by omega
  have b2 : (x == 2) = false := by simp [q2]
  have b3 : (x == 3) = false := by simp [q3]
  have hnm : ∀ W, Calls Ybaf.prog 7 #[.int .u8 x] W fun e w' => e = .returned (.tuple #[.string ⟨#[]⟩, .bool false]) ∧ w' = W := fun W => by have := name_any x W; rwa [if_neg hx, decide_eq_false hx] at this
  clear hG hS
  go_enter Ybaf.func3, Ybaf.ntmps3
  go_wp2_with (first
    | (go_at_call 5; refine (clone_any w.heap.size a n c S w hn HS.out).mono ?_; rintro e w1 ⟨ov, rfl, hov, hb1⟩; obtain ⟨va, vc, rfl⟩ := row_slice hov; have HO1 : Hid (w1.ownsRow w.heap.size 9 1 (.slice va n vc) n (nms S n)) := hov; have HB1 : Hid (Below w.heap.size w w1) := hb1; have hs1 := hb1.size; clear hov hb1)
    | (go_at_call 6; refine (words_any F x key value origin va vc n w.heap.size (nms S n) _ h0 h1 hn hw0 (by simp; omega) (HG.out.later hw0 (HB1.out.alloc hs1 _)) (HO1.out.alloc _)).mono ?_; rintro e w3 ⟨got, s, rfl, hs, hb3, hrow⟩; rw [if_neg HX.out, if_neg HX.out] at hrow; obtain ⟨g, gc, rfl, hgc, hcells⟩ := row_head hrow (by omega); have HC : Hid (∀ j, j < n + 4 → w3.cell? ⟨g, j, none⟩ = (nms S n ++ ([.string origin, .string ⟨#[45]⟩, .string s, .string key] ++ []))[j]?) := (by rw [← List.append_assoc]; exact hcells); have HB3 : Hid (Below w.heap.size w w3) := (HB1.out.alloc hs1 _).trans hb3; clear hrow hb3 hcells))
  all_goals (try (exfalso; omega))
  go_loopw [16] (fun i wr => ∃ (k q : Nat), i = .int .i64 k ∧ k ≤ n ∧ wr = w3.drewN q) (fun i _ => n - (RowKit.intOf i).toNat)
  case atStart => exact ⟨0, 0, rfl, Nat.zero_le _, rfl⟩
  case round =>
    obtain ⟨k, q, rfl, hk, rfl⟩ := hrel
    by_cases hlt : k < n
    · obtain ⟨a', c', heq, hac, hst⟩ := HS.out.later HB3.out
      obtain ⟨rfl, rfl⟩ : a = a' ∧ c = c' := by simpa using heq
      obtain ⟨pb, po, rfl, _, hpc⟩ := hst (by omega)
      have d0 := hpc k hlt
      have d1 : w3.cell? ⟨g, k, none⟩ = some (.string (S k)) := (HC.out k (by omega)).trans (at_low S n _ hlt)
      clear hpc hst heq
      go_wp2_with fail
      go_region
      all_goals
        go_wp2
        go_roundw
        case rel => exact ⟨k + 1, q + 1, by go_num, by omega, rfl⟩
        case measure => simp [RowKit.intOf]; omega
    · obtain rfl : k = n := by omega
      have t0 : w3.cell? ⟨g, k, none⟩ = some (.string origin) := (HC.out k (by omega)).trans (at_high S k _ 0)
      have t1 : w3.cell? ⟨g, k + 1, none⟩ = some (.string ⟨#[45]⟩) := (HC.out (k + 1) (by omega)).trans (at_high S k _ 1)
      have t2 : w3.cell? ⟨g, k + 2, none⟩ = some (.string s) := (HC.out (k + 2) (by omega)).trans (at_high S k _ 2)
      have t3 : w3.cell? ⟨g, k + 3, none⟩ = some (.string key) := (HC.out (k + 3) (by omega)).trans (at_high S k _ 3)
      go_wp2_with (go_at_call 7; refine (hnm _).mono ?_; rintro e w' ⟨rfl, rfl⟩)
      go_ret
      exact ⟨rfl, HB3.out.trans ⟨rfl, rfl, rfl, Nat.le_refl _, fun _ _ => rfl⟩⟩
end Go.Proofs.YbulkypcFmt
