/-
  LawS1233CModel$1: the closure that logs a name and answers by its count.
-/
import Derived.Test.YbulkymyCat
namespace Go.Proofs.Ybulkymy
open Go.RowKit Go.Maps

theorem Yba.info9 : (Yba.prog.info? 9).map (fun i => (i.zero, i.size, i.bytes)) = some (some (.string ByteArray.empty), 1, 16) := by kernel_rfl

/-- the closure's own two variables, at blocks lb and lb + 1: the log so far, and how often it was called -/
def Logd (w : World) (lb : Nat) (lv : Value) (i : Nat) (xs : List Value) : Prop :=
  w.cell? ⟨lb, 0, none⟩ = some lv ∧ w.frozen? ⟨lb, 0, none⟩ = false ∧ w.cell? ⟨lb + 1, 0, none⟩ = some (.int .i64 i) ∧ w.frozen? ⟨lb + 1, 0, none⟩ = false ∧ w.ownsRow (lb + 2) 9 1 lv i xs

theorem row_slice {w : World} {base : Nat} {e : TypeId} {size : Nat} {v : Value} {n : Nat} {xs : List Value} (h : w.ownsRow base e size v n xs) : ∃ a c, v = .slice a n c := by
  rcases h.2 with ⟨rfl, rfl⟩ | ⟨g, cap, cur, rfl, _⟩
  · exact ⟨none, 0, rfl⟩
  · exact ⟨_, cap, rfl⟩
theorem row_of_block {w W : World} {base : Nat} {e : TypeId} {size : Nat} {v : Value} {n : Nat} {xs : List Value} (h : w.ownsRow base e size v n xs) (hk : ∀ k, v.ownBlock = some k → W.heap[k]? = w.heap[k]?) : W.ownsRow base e size v n xs := by
  refine ⟨h.1, ?_⟩
  rcases h.2 with hn | ⟨g, cap, cur, rfl, hbs, hgg, rest⟩
  · exact .inl hn
  · exact .inr ⟨g, cap, cur, rfl, hbs, (hk g rfl).trans hgg, rest⟩
theorem row_base {w : World} {base : Nat} {e : TypeId} {size : Nat} {v : Value} {n : Nat} {xs : List Value} (h : w.ownsRow base e size v n xs) {k : Nat} (hk : v.ownBlock = some k) : base ≤ k ∧ k < w.heap.size := by
  rcases h.2 with ⟨rfl, rfl⟩ | ⟨g, cap, cur, rfl, hb, hg, _⟩
  · simp [Value.ownBlock] at hk
  · simp [Value.ownBlock] at hk
    subst hk
    exact ⟨hb, (Array.getElem?_eq_some_iff.1 hg).1⟩
set_option maxHeartbeats 1000000 in
set_option maxRecDepth 100000 in
theorem clos_any (lb hb : Nat) (lv : Value) (i : Nat) (xs : List Value) (s : ByteArray) (ha : Option Addr) (nh ch : Nat) (Z : Nat → Int) (w : World) (hi : i ≤ 1024) (hnh : nh ≤ 1024) (hlb : lb + 2 ≤ w.heap.size) (hhb : hb < lb)
    (hh : w.cell? ⟨hb, 0, none⟩ = some (.slice ha nh ch)) (hZ : Nums w lb ha nh ch Z) (hL : Logd w lb lv i xs) :
    Calls Yba.prog 11 #[.string s, .pointer (some ⟨lb, 0, none⟩), .pointer (some ⟨hb, 0, none⟩), .pointer (some ⟨lb + 1, 0, none⟩)] w fun e w' =>
      e = .returned (.int .u64 (nat0 nh Z i)) ∧ ∃ lv', Logd w' lb lv' (i + 1) (xs ++ [.string s]) ∧ Below lb w w' ∧ (∀ g, lb + 2 ≤ g → g < w.heap.size → some g ≠ lv.ownBlock → w'.heap[g]? = w.heap[g]?) ∧ (lv'.ownBlock = lv.ownBlock ∨ ∃ g, w.heap.size ≤ g ∧ lv'.ownBlock = some g) := by
  obtain ⟨i0, hi0, hz0, hz1, hz2⟩ := info_parts Yba.info9
  obtain ⟨c0, f0, c1, f1, own⟩ := hL
  obtain ⟨la, lc, rfl⟩ := row_slice own
  have HO : Hid (w.ownsRow (lb + 2) 9 1 (.slice la i lc) i xs) := own
  have HZ : Hid (Nums w lb ha nh ch Z) := hZ
  clear own hZ
  have hne : hb ≠ lb := by omega
  go_enter Yba.func11, Yba.ntmps11
  go_wp2_with (first
    | (at_builtin; refine wpList_append_own_at _ rfl (.tmp 7) (.tmp 9) 37 rfl (lb + 2) 9 i0 (.string ByteArray.empty) 1 16 Yba.underlying37 hi0 hz0 hz1 hz2 rfl (by decide) _ i xs rfl (HO.out.alloc _) ⟨w.heap.size, 0, none⟩ 1 1 [.string s] rfl rfl (cell_one_new _ _ _) (by intro u hu; simp at hu; subst hu; rfl) (by unfold maxLen; omega) (by omega) (by simp; omega) ?_; intro lv' w1 own1 gr1 _ hbk; obtain ⟨la', lc', rfl⟩ := row_slice own1; have hb1 : Below (lb + 2) w w1 := ((Below.refl (lb + 2) w).alloc hlb _).grown gr1 (by simp; omega) (fun k hk => (row_base HO.out hk).1); have d0 := (hb1.cell (p := ⟨lb, 0, none⟩) (by simp)).trans c0; have d1 := (hb1.cell (p := ⟨lb + 1, 0, none⟩) (by simp)).trans c1; have d2 := (hb1.cell (p := ⟨hb, 0, none⟩) (by simp; omega)).trans hh; have g0 := (hb1.frozen (p := ⟨lb, 0, none⟩) (by simp)).trans f0; have g1 := (hb1.frozen (p := ⟨lb + 1, 0, none⟩) (by simp)).trans f1; have HZ1 : Hid (Nums (w1.setCell ⟨lb, 0, none⟩ (.slice la' (i + 1) lc')) lb ha nh ch Z) := HZ.out.later ((hb1.mono (Nat.le_add_right _ _)).setCell (Nat.le_refl _) _); have O1 : Hid (w1.ownsRow (lb + 2) 9 1 (.slice la' (i + 1) lc') (i + 1) (xs ++ [.string s])) := own1; have GR : Hid _ := gr1; have HB1 : Hid _ := hb1; clear own1 gr1 hb1 c0 c1 f0 f1 hh)
    | (go_at_call 9; refine (cat_any lb ha nh ch Z i _ hnh HZ1.out).mono ?_; rintro e w' ⟨rfl, rfl⟩))
  go_ret
  have hsz := HB1.out.size
  refine ⟨rfl, .slice la' (i + 1) lc', ⟨?_, ?_, ?_, ?_, ?_⟩, ?_, ?_, ?_⟩
  · rw [World.cell?_setCell_other _ _ _ _ (by simp)]
    exact World.cell?_setCell_same _ _ _ d0
  · rw [World.frozen?_setCell, World.frozen?_setCell]; exact g0
  · have := World.cell?_setCell_same _ _ (.int .i64 ((i : Int) + 1)) ((World.cell?_setCell_other w1 ⟨lb, 0, none⟩ ⟨lb + 1, 0, none⟩ (.slice la' (i + 1) lc') (by simp)).trans d1)
    rw [this]
    simp
  · rw [World.frozen?_setCell, World.frozen?_setCell]; exact g1
  · refine row_of_block O1.out fun k hk => ?_
    have := (row_base O1.out hk).1
    rw [Below.heap_setCell _ _ _ _ (by simp; omega), Below.heap_setCell _ _ _ _ (by simp; omega)]
  · exact ((HB1.out.mono (Nat.le_add_right _ _)).setCell (Nat.le_refl _) _).setCell (by simp) _
  · intro g hg1 hg2 hg3
    rw [Below.heap_setCell _ _ _ _ (by simp; omega), Below.heap_setCell _ _ _ _ (by simp; omega), GR.out.block g (by simp; omega) hg3, Below.heap_alloc _ _ _ hg2]
  · rcases hbk with h | h
    · exact .inl h
    · exact .inr ⟨_, by simp, h⟩
end Go.Proofs.Ybulkymy
