/-
  A small kit of our own: rows of 16, 18 and 19 cells are read and written in one step (the walk's own way opens them cell by cell, and the kernel outgrows its memory there).
-/
import Derived.Test.YbulkyliFmtRows
import Derived.WalkKit
import Derived.WalkSpells
import Derived.WalkLawsBesides
import Derived.Deep.MidRow
import Derived.Deep.WholeRow
namespace Go.Proofs.YbulkyliFmt
open Go.RowKit

/-! ### reading -/
def rdN (a : Addr) (n : Nat) : Sem (Array Value) := loadCellsFrom a 0 n #[]
def rdX (a : Addr) (n : Nat) : Sem (Array Value) := loadCellsFrom a 0 n #[]
theorem rd_any (a : Addr) (n : Nat) : loadCellsFrom a 0 n #[] = rdN a n := rfl

def cellOr (w : World) (a : Addr) : Value := (w.cell? a).getD undef

theorem rd_run (w : World) (g o n : Nat) (h : ∀ j, j < n → (w.cell? ⟨g, o + j, none⟩).isSome = true) :
    (rdN ⟨g, o, none⟩ n).run Ybaf.prog w = .ok ((List.range n).map fun j => cellOr w ⟨g, o + j, none⟩).toArray w := by
  have := run_loadCells (P := Ybaf.prog) w ⟨g, o, none⟩ n (fun j => cellOr w ⟨g, o + j, none⟩) (fun j hj => by
    rw [Addr.add_mid]
    obtain ⟨u, hu⟩ := Option.isSome_iff_exists.1 (h j hj)
    simp [cellOr, hu])
  simpa [loadCells, rdN] using this
theorem rd_run0 (w : World) (a : Addr) : (rdN a 0).run Ybaf.prog w = .ok #[] w := rfl
theorem rd_run1 (w : World) (g o : Nat) :
    (rdN ⟨g, o, none⟩ 1).run Ybaf.prog w = bif (w.cell? ⟨g, o, none⟩).isSome then .ok #[cellOr w ⟨g, o, none⟩] w else (rdX ⟨g, o, none⟩ 1).run Ybaf.prog w := by
  cases hc : (w.cell? ⟨g, o, none⟩).isSome
  · rfl
  have c0 := hc
  rw [rd_run w g o 1 (fun j hj => by
    match j, hj with
    | 0, _ => exact c0
    | j + 1, h => exact absurd h (by omega))]
  rfl
theorem rd_run2 (w : World) (g o : Nat) :
    (rdN ⟨g, o, none⟩ 2).run Ybaf.prog w = bif ((w.cell? ⟨g, o, none⟩).isSome && (w.cell? ⟨g, o + 1, none⟩).isSome) then .ok #[cellOr w ⟨g, o, none⟩, cellOr w ⟨g, o + 1, none⟩] w else (rdX ⟨g, o, none⟩ 2).run Ybaf.prog w := by
  cases hc : ((w.cell? ⟨g, o, none⟩).isSome && (w.cell? ⟨g, o + 1, none⟩).isSome)
  · rfl
  simp only [Bool.and_eq_true] at hc
  obtain ⟨c0, c1⟩ := hc
  rw [rd_run w g o 2 (fun j hj => by
    match j, hj with
    | 0, _ => exact c0
    | 1, _ => exact c1
    | j + 2, h => exact absurd h (by omega))]
  rfl
theorem rd_run16 (w : World) (g o : Nat) :
    (rdN ⟨g, o, none⟩ 16).run Ybaf.prog w = bif ((w.cell? ⟨g, o, none⟩).isSome && ((w.cell? ⟨g, o + 1, none⟩).isSome && ((w.cell? ⟨g, o + 2, none⟩).isSome && ((w.cell? ⟨g, o + 3, none⟩).isSome && ((w.cell? ⟨g, o + 4, none⟩).isSome && ((w.cell? ⟨g, o + 5, none⟩).isSome && ((w.cell? ⟨g, o + 6, none⟩).isSome && ((w.cell? ⟨g, o + 7, none⟩).isSome && ((w.cell? ⟨g, o + 8, none⟩).isSome && ((w.cell? ⟨g, o + 9, none⟩).isSome && ((w.cell? ⟨g, o + 10, none⟩).isSome && ((w.cell? ⟨g, o + 11, none⟩).isSome && ((w.cell? ⟨g, o + 12, none⟩).isSome && ((w.cell? ⟨g, o + 13, none⟩).isSome && ((w.cell? ⟨g, o + 14, none⟩).isSome && (w.cell? ⟨g, o + 15, none⟩).isSome))))))))))))))) then .ok #[cellOr w ⟨g, o, none⟩, cellOr w ⟨g, o + 1, none⟩, cellOr w ⟨g, o + 2, none⟩, cellOr w ⟨g, o + 3, none⟩, cellOr w ⟨g, o + 4, none⟩, cellOr w ⟨g, o + 5, none⟩, cellOr w ⟨g, o + 6, none⟩, cellOr w ⟨g, o + 7, none⟩, cellOr w ⟨g, o + 8, none⟩, cellOr w ⟨g, o + 9, none⟩, cellOr w ⟨g, o + 10, none⟩, cellOr w ⟨g, o + 11, none⟩, cellOr w ⟨g, o + 12, none⟩, cellOr w ⟨g, o + 13, none⟩, cellOr w ⟨g, o + 14, none⟩, cellOr w ⟨g, o + 15, none⟩] w else (rdX ⟨g, o, none⟩ 16).run Ybaf.prog w := by
  cases hc : ((w.cell? ⟨g, o, none⟩).isSome && ((w.cell? ⟨g, o + 1, none⟩).isSome && ((w.cell? ⟨g, o + 2, none⟩).isSome && ((w.cell? ⟨g, o + 3, none⟩).isSome && ((w.cell? ⟨g, o + 4, none⟩).isSome && ((w.cell? ⟨g, o + 5, none⟩).isSome && ((w.cell? ⟨g, o + 6, none⟩).isSome && ((w.cell? ⟨g, o + 7, none⟩).isSome && ((w.cell? ⟨g, o + 8, none⟩).isSome && ((w.cell? ⟨g, o + 9, none⟩).isSome && ((w.cell? ⟨g, o + 10, none⟩).isSome && ((w.cell? ⟨g, o + 11, none⟩).isSome && ((w.cell? ⟨g, o + 12, none⟩).isSome && ((w.cell? ⟨g, o + 13, none⟩).isSome && ((w.cell? ⟨g, o + 14, none⟩).isSome && (w.cell? ⟨g, o + 15, none⟩).isSome)))))))))))))))
  · rfl
  simp only [Bool.and_eq_true] at hc
  obtain ⟨c0, c1, c2, c3, c4, c5, c6, c7, c8, c9, c10, c11, c12, c13, c14, c15⟩ := hc
  rw [rd_run w g o 16 (fun j hj => by
    match j, hj with
    | 0, _ => exact c0
    | 1, _ => exact c1
    | 2, _ => exact c2
    | 3, _ => exact c3
    | 4, _ => exact c4
    | 5, _ => exact c5
    | 6, _ => exact c6
    | 7, _ => exact c7
    | 8, _ => exact c8
    | 9, _ => exact c9
    | 10, _ => exact c10
    | 11, _ => exact c11
    | 12, _ => exact c12
    | 13, _ => exact c13
    | 14, _ => exact c14
    | 15, _ => exact c15
    | j + 16, h => exact absurd h (by omega))]
  rfl
theorem rd_run18 (w : World) (g o : Nat) :
    (rdN ⟨g, o, none⟩ 18).run Ybaf.prog w = bif ((w.cell? ⟨g, o, none⟩).isSome && ((w.cell? ⟨g, o + 1, none⟩).isSome && ((w.cell? ⟨g, o + 2, none⟩).isSome && ((w.cell? ⟨g, o + 3, none⟩).isSome && ((w.cell? ⟨g, o + 4, none⟩).isSome && ((w.cell? ⟨g, o + 5, none⟩).isSome && ((w.cell? ⟨g, o + 6, none⟩).isSome && ((w.cell? ⟨g, o + 7, none⟩).isSome && ((w.cell? ⟨g, o + 8, none⟩).isSome && ((w.cell? ⟨g, o + 9, none⟩).isSome && ((w.cell? ⟨g, o + 10, none⟩).isSome && ((w.cell? ⟨g, o + 11, none⟩).isSome && ((w.cell? ⟨g, o + 12, none⟩).isSome && ((w.cell? ⟨g, o + 13, none⟩).isSome && ((w.cell? ⟨g, o + 14, none⟩).isSome && ((w.cell? ⟨g, o + 15, none⟩).isSome && ((w.cell? ⟨g, o + 16, none⟩).isSome && (w.cell? ⟨g, o + 17, none⟩).isSome))))))))))))))))) then .ok #[cellOr w ⟨g, o, none⟩, cellOr w ⟨g, o + 1, none⟩, cellOr w ⟨g, o + 2, none⟩, cellOr w ⟨g, o + 3, none⟩, cellOr w ⟨g, o + 4, none⟩, cellOr w ⟨g, o + 5, none⟩, cellOr w ⟨g, o + 6, none⟩, cellOr w ⟨g, o + 7, none⟩, cellOr w ⟨g, o + 8, none⟩, cellOr w ⟨g, o + 9, none⟩, cellOr w ⟨g, o + 10, none⟩, cellOr w ⟨g, o + 11, none⟩, cellOr w ⟨g, o + 12, none⟩, cellOr w ⟨g, o + 13, none⟩, cellOr w ⟨g, o + 14, none⟩, cellOr w ⟨g, o + 15, none⟩, cellOr w ⟨g, o + 16, none⟩, cellOr w ⟨g, o + 17, none⟩] w else (rdX ⟨g, o, none⟩ 18).run Ybaf.prog w := by
  cases hc : ((w.cell? ⟨g, o, none⟩).isSome && ((w.cell? ⟨g, o + 1, none⟩).isSome && ((w.cell? ⟨g, o + 2, none⟩).isSome && ((w.cell? ⟨g, o + 3, none⟩).isSome && ((w.cell? ⟨g, o + 4, none⟩).isSome && ((w.cell? ⟨g, o + 5, none⟩).isSome && ((w.cell? ⟨g, o + 6, none⟩).isSome && ((w.cell? ⟨g, o + 7, none⟩).isSome && ((w.cell? ⟨g, o + 8, none⟩).isSome && ((w.cell? ⟨g, o + 9, none⟩).isSome && ((w.cell? ⟨g, o + 10, none⟩).isSome && ((w.cell? ⟨g, o + 11, none⟩).isSome && ((w.cell? ⟨g, o + 12, none⟩).isSome && ((w.cell? ⟨g, o + 13, none⟩).isSome && ((w.cell? ⟨g, o + 14, none⟩).isSome && ((w.cell? ⟨g, o + 15, none⟩).isSome && ((w.cell? ⟨g, o + 16, none⟩).isSome && (w.cell? ⟨g, o + 17, none⟩).isSome)))))))))))))))))
  · rfl
  simp only [Bool.and_eq_true] at hc
  obtain ⟨c0, c1, c2, c3, c4, c5, c6, c7, c8, c9, c10, c11, c12, c13, c14, c15, c16, c17⟩ := hc
  rw [rd_run w g o 18 (fun j hj => by
    match j, hj with
    | 0, _ => exact c0
    | 1, _ => exact c1
    | 2, _ => exact c2
    | 3, _ => exact c3
    | 4, _ => exact c4
    | 5, _ => exact c5
    | 6, _ => exact c6
    | 7, _ => exact c7
    | 8, _ => exact c8
    | 9, _ => exact c9
    | 10, _ => exact c10
    | 11, _ => exact c11
    | 12, _ => exact c12
    | 13, _ => exact c13
    | 14, _ => exact c14
    | 15, _ => exact c15
    | 16, _ => exact c16
    | 17, _ => exact c17
    | j + 18, h => exact absurd h (by omega))]
  rfl
theorem rd_run19 (w : World) (g o : Nat) :
    (rdN ⟨g, o, none⟩ 19).run Ybaf.prog w = bif ((w.cell? ⟨g, o, none⟩).isSome && ((w.cell? ⟨g, o + 1, none⟩).isSome && ((w.cell? ⟨g, o + 2, none⟩).isSome && ((w.cell? ⟨g, o + 3, none⟩).isSome && ((w.cell? ⟨g, o + 4, none⟩).isSome && ((w.cell? ⟨g, o + 5, none⟩).isSome && ((w.cell? ⟨g, o + 6, none⟩).isSome && ((w.cell? ⟨g, o + 7, none⟩).isSome && ((w.cell? ⟨g, o + 8, none⟩).isSome && ((w.cell? ⟨g, o + 9, none⟩).isSome && ((w.cell? ⟨g, o + 10, none⟩).isSome && ((w.cell? ⟨g, o + 11, none⟩).isSome && ((w.cell? ⟨g, o + 12, none⟩).isSome && ((w.cell? ⟨g, o + 13, none⟩).isSome && ((w.cell? ⟨g, o + 14, none⟩).isSome && ((w.cell? ⟨g, o + 15, none⟩).isSome && ((w.cell? ⟨g, o + 16, none⟩).isSome && ((w.cell? ⟨g, o + 17, none⟩).isSome && (w.cell? ⟨g, o + 18, none⟩).isSome)))))))))))))))))) then .ok #[cellOr w ⟨g, o, none⟩, cellOr w ⟨g, o + 1, none⟩, cellOr w ⟨g, o + 2, none⟩, cellOr w ⟨g, o + 3, none⟩, cellOr w ⟨g, o + 4, none⟩, cellOr w ⟨g, o + 5, none⟩, cellOr w ⟨g, o + 6, none⟩, cellOr w ⟨g, o + 7, none⟩, cellOr w ⟨g, o + 8, none⟩, cellOr w ⟨g, o + 9, none⟩, cellOr w ⟨g, o + 10, none⟩, cellOr w ⟨g, o + 11, none⟩, cellOr w ⟨g, o + 12, none⟩, cellOr w ⟨g, o + 13, none⟩, cellOr w ⟨g, o + 14, none⟩, cellOr w ⟨g, o + 15, none⟩, cellOr w ⟨g, o + 16, none⟩, cellOr w ⟨g, o + 17, none⟩, cellOr w ⟨g, o + 18, none⟩] w else (rdX ⟨g, o, none⟩ 19).run Ybaf.prog w := by
  cases hc : ((w.cell? ⟨g, o, none⟩).isSome && ((w.cell? ⟨g, o + 1, none⟩).isSome && ((w.cell? ⟨g, o + 2, none⟩).isSome && ((w.cell? ⟨g, o + 3, none⟩).isSome && ((w.cell? ⟨g, o + 4, none⟩).isSome && ((w.cell? ⟨g, o + 5, none⟩).isSome && ((w.cell? ⟨g, o + 6, none⟩).isSome && ((w.cell? ⟨g, o + 7, none⟩).isSome && ((w.cell? ⟨g, o + 8, none⟩).isSome && ((w.cell? ⟨g, o + 9, none⟩).isSome && ((w.cell? ⟨g, o + 10, none⟩).isSome && ((w.cell? ⟨g, o + 11, none⟩).isSome && ((w.cell? ⟨g, o + 12, none⟩).isSome && ((w.cell? ⟨g, o + 13, none⟩).isSome && ((w.cell? ⟨g, o + 14, none⟩).isSome && ((w.cell? ⟨g, o + 15, none⟩).isSome && ((w.cell? ⟨g, o + 16, none⟩).isSome && ((w.cell? ⟨g, o + 17, none⟩).isSome && (w.cell? ⟨g, o + 18, none⟩).isSome))))))))))))))))))
  · rfl
  simp only [Bool.and_eq_true] at hc
  obtain ⟨c0, c1, c2, c3, c4, c5, c6, c7, c8, c9, c10, c11, c12, c13, c14, c15, c16, c17, c18⟩ := hc
  rw [rd_run w g o 19 (fun j hj => by
    match j, hj with
    | 0, _ => exact c0
    | 1, _ => exact c1
    | 2, _ => exact c2
    | 3, _ => exact c3
    | 4, _ => exact c4
    | 5, _ => exact c5
    | 6, _ => exact c6
    | 7, _ => exact c7
    | 8, _ => exact c8
    | 9, _ => exact c9
    | 10, _ => exact c10
    | 11, _ => exact c11
    | 12, _ => exact c12
    | 13, _ => exact c13
    | 14, _ => exact c14
    | 15, _ => exact c15
    | 16, _ => exact c16
    | 17, _ => exact c17
    | 18, _ => exact c18
    | j + 19, h => exact absurd h (by omega))]
  rfl

/-! ### writing -/
def wrN (a : Addr) (vs : List Value) : Sem Unit := storeCells a vs 0
def wrX (a : Addr) (vs : List Value) : Sem Unit := storeCells a vs 0
theorem wr_16 (a : Addr) (v0 v1 v2 v3 v4 v5 v6 v7 v8 v9 v10 v11 v12 v13 v14 v15 : Value) : storeCells a [v0, v1, v2, v3, v4, v5, v6, v7, v8, v9, v10, v11, v12, v13, v14, v15] 0 = wrN a [v0, v1, v2, v3, v4, v5, v6, v7, v8, v9, v10, v11, v12, v13, v14, v15] := rfl
theorem wr_18 (a : Addr) (v0 v1 v2 v3 v4 v5 v6 v7 v8 v9 v10 v11 v12 v13 v14 v15 v16 v17 : Value) : storeCells a [v0, v1, v2, v3, v4, v5, v6, v7, v8, v9, v10, v11, v12, v13, v14, v15, v16, v17] 0 = wrN a [v0, v1, v2, v3, v4, v5, v6, v7, v8, v9, v10, v11, v12, v13, v14, v15, v16, v17] := rfl
theorem wr_19 (a : Addr) (v0 v1 v2 v3 v4 v5 v6 v7 v8 v9 v10 v11 v12 v13 v14 v15 v16 v17 v18 : Value) : storeCells a [v0, v1, v2, v3, v4, v5, v6, v7, v8, v9, v10, v11, v12, v13, v14, v15, v16, v17, v18] 0 = wrN a [v0, v1, v2, v3, v4, v5, v6, v7, v8, v9, v10, v11, v12, v13, v14, v15, v16, v17, v18] := rfl

def rowLen (w : World) (g : Nat) : Nat := match w.heap[g]? with
  | some (.cells c _ (0, 0)) => c.size
  | _ => 0
def putRow (w : World) (g : Nat) (vs : List Value) : World := match w.heap[g]? with
  | some (.cells c _ _) => w.setRow g (vs ++ c.toList.drop vs.length).toArray
  | _ => w

theorem wr_run (w : World) (g : Nat) (vs : List Value) :
    (wrN ⟨g, 0, none⟩ vs).run Ybaf.prog w = bif (decide (vs.length ≤ rowLen w g) && (decide (0 < vs.length) && vs.all (fun v => v.oneCell'))) then .ok () (putRow w g vs) else (wrX ⟨g, 0, none⟩ vs).run Ybaf.prog w := by
  cases hc : (decide (vs.length ≤ rowLen w g) && (decide (0 < vs.length) && vs.all (fun v => v.oneCell')))
  · rfl
  simp only [Bool.and_eq_true, decide_eq_true_eq] at hc
  obtain ⟨h, h0, h1⟩ := hc
  show _ = Result.ok () _
  unfold rowLen at h
  split at h
  · next c t hg =>
    have := run_storeCells_at Ybaf.prog g 0 t vs 0 c w hg (by simpa using h) (fun u hu => List.all_eq_true.1 h1 u hu)
    simpa [wrN, putRow, hg] using this
  · omega

theorem cellOr_some {w : World} {a : Addr} {v : Value} (h : w.cell? a = some v) : cellOr w a = v := by simp [cellOr, h]
theorem rowLen_drewN (w : World) (g k : Nat) : rowLen (w.drewN k) g = rowLen w g := rfl
theorem rowLen_drew (w : World) (g : Nat) : rowLen w.drew g = rowLen w g := rfl
theorem alloc_old (w : World) (o : Obj) (g : Nat) (h : g < w.heap.size) : (w.alloc o).heap[g]? = w.heap[g]? := by
  show (w.heap.push o)[g]? = w.heap[g]?
  rw [Array.getElem?_push, if_neg (Nat.ne_of_lt h)]
theorem rowLen_at (w : World) (g : Nat) (c : Array Value) (t : TypeId) (h : g = w.heap.size) : rowLen (w.alloc (.cells c t)) g = c.size := by
  subst h; unfold rowLen; rw [heap_alloc_last]; rfl
theorem rowLen_past (w : World) (g : Nat) (o : Obj) (h : g < w.heap.size) : rowLen (w.alloc o) g = rowLen w g := by
  unfold rowLen; rw [alloc_old w o g h]
theorem putRow_at (w : World) (g : Nat) (c vs : List Value) (t : TypeId) (h : g = w.heap.size) : putRow (w.alloc (.cells c.toArray t)) g vs = w.alloc (.cells (vs ++ c.drop vs.length).toArray t) := by
  subst h; unfold putRow; rw [heap_alloc_last]; simp [World.setRow_alloc_new]
theorem putRow_past (w : World) (g : Nat) (vs : List Value) (o : Obj) (h : g < w.heap.size) : putRow (w.alloc o) g vs = (putRow w g vs).alloc o := by
  unfold putRow
  rw [alloc_old w o g h]
  split
  · unfold World.setRow World.alloc
    congr 1
    apply Array.ext_getElem?
    intro k
    simp only [Array.getElem?_modify, Array.getElem?_push, Array.size_modify]
    by_cases hk : k = w.heap.size
    · subst hk; simp [Nat.ne_of_lt h]
    · simp [hk]
  · rfl
theorem putRow_drew (w : World) (g : Nat) (vs : List Value) : putRow w.drew g vs = (putRow w g vs).drew := by
  unfold putRow
  show (match w.heap[g]? with | some (.cells c _ _) => w.drew.setRow g (vs ++ c.toList.drop vs.length).toArray | _ => w.drew) = _
  split <;> rfl
theorem putRow_drewN (w : World) (g : Nat) (vs : List Value) (k : Nat) : putRow (w.drewN k) g vs = (putRow w g vs).drewN k := by
  unfold putRow
  show (match w.heap[g]? with | some (.cells c _ _) => (w.drewN k).setRow g (vs ++ c.toList.drop vs.length).toArray | _ => w.drewN k) = _
  split <;> rfl
theorem alloc_drewN (w : World) (o : Obj) (k : Nat) : (w.drewN k).alloc o = (w.alloc o).drewN k := rfl

end Go.Proofs.YbulkyliFmt
