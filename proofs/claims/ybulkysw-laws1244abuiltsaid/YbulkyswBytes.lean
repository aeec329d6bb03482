/-
  LawS1244ABuilt: the tables, the rows and the strings that it makes.
-/
import Derived.Test.YbulkyswPlain
import Derived.WalkKit
import Derived.OwnWalk
import Derived.Maps.AppendAt
import Derived.Deep.LoopGhost
import Derived.Below
namespace Go.Proofs.Ybulkysw
open Go.RowKit

def gtB : ByteArray := ⟨#[97, 122, 65, 90, 48, 57, 95, 45, 109, 81, 53, 121, 66, 107]⟩
def btB : ByteArray := ⟨#[32, 46, 64, 91, 96, 123, 47, 58, 128, 255, 34, 33, 0, 126]⟩
theorem good_all : ∀ i, i < 14 → pl (byt gtB i) = true ∧ 0 ≤ byt gtB i ∧ byt gtB i ≤ 255 := by decide
theorem bad_all : ∀ i, i < 14 → pl (byt btB i) = false ∧ 0 ≤ byt btB i ∧ byt btB i ≤ 255 := by decide
def gb (z : Int) : Int := byt gtB (z.tmod 14).toNat
def bb (z : Int) : Int := byt btB (z.tmod 14).toNat
theorem tmod14 {z : Int} (h : 0 ≤ z) : 0 ≤ z.tmod 14 ∧ z.tmod 14 < 14 := by
  rw [Int.tmod_eq_emod_of_nonneg h]
  omega
theorem gb_good {z : Int} (h : 0 ≤ z) : pl (gb z) = true ∧ 0 ≤ gb z ∧ gb z ≤ 255 := good_all _ (by have := tmod14 h; omega)
theorem bb_bad {z : Int} (h : 0 ≤ z) : pl (bb z) = false ∧ 0 ≤ bb z ∧ bb z ≤ 255 := bad_all _ (by have := tmod14 h; omega)
theorem idx_any (s : ByteArray) (i : Int) (W : World) (h0 : 0 ≤ i) (h1 : i < s.size) : (Instr.index 9 (.string s) (.int .i64 i)).run Yba.prog W = .ok (.int .u8 (byt s i.toNat)) W := by
  rw [run_index_string W 9 s .i64 i Yba.underlying9, dif_pos ⟨h0, h1⟩]
  congr 2
  have hi' : i.toNat < s.data.size := by have : s.size = s.data.size := rfl; omega
  unfold byt
  rw [Array.getElem?_eq_getElem hi']
  rfl
theorem idx_g (z : Int) (h : 0 ≤ z) (W : World) : (Instr.index 9 (.string ⟨#[97, 122, 65, 90, 48, 57, 95, 45, 109, 81, 53, 121, 66, 107]⟩) (.int .i64 (z.tmod 14))).run Yba.prog W = .ok (.int .u8 (gb z)) W :=
  idx_any gtB (z.tmod 14) W (tmod14 h).1 (tmod14 h).2
theorem idx_b (z : Int) (h : 0 ≤ z) (W : World) : (Instr.index 9 (.string ⟨#[32, 46, 64, 91, 96, 123, 47, 58, 128, 255, 34, 33, 0, 126]⟩) (.int .i64 (z.tmod 14))).run Yba.prog W = .ok (.int .u8 (bb z)) W :=
  idx_any btB (z.tmod 14) W (tmod14 h).1 (tmod14 h).2

theorem gt_call (w : World) : Calls Yba.prog 7 #[] w fun e w' => e = .returned (.string ⟨#[97, 122, 65, 90, 48, 57, 95, 45, 109, 81, 53, 121, 66, 107]⟩) ∧ w' = w := by
  go_enter Yba.func7, Yba.ntmps7
  go_wp2
  go_ret
  exact ⟨rfl, rfl⟩
theorem bt_call (w : World) : Calls Yba.prog 8 #[] w fun e w' => e = .returned (.string ⟨#[32, 46, 64, 91, 96, 123, 47, 58, 128, 255, 34, 33, 0, 126]⟩) ∧ w' = w := by
  go_enter Yba.func8, Yba.ntmps8
  go_wp2
  go_ret
  exact ⟨rfl, rfl⟩

/-- the string that the first m numbers make -/
def strOf (L : Nat → Int) (m : Nat) : ByteArray := ⟨((List.range m).map fun i => (L i).toNat.toUInt8).toArray⟩
theorem strOf_size (L : Nat → Int) (m : Nat) : (strOf L m).size = m := by simp [strOf, ByteArray.size]
theorem toU8 {x : Int} (h0 : 0 ≤ x) (h1 : x ≤ 255) : ((x.toNat.toUInt8).toNat : Int) = x := by
  have : x.toNat.toUInt8.toNat = x.toNat := by
    simp [Nat.toUInt8, UInt8.toNat_ofNat']
    omega
  omega
theorem byt_strOf (L : Nat → Int) (m i : Nat) (hi : i < m) (h0 : 0 ≤ L i) (h1 : L i ≤ 255) : byt (strOf L m) i = L i := by
  unfold byt strOf
  simp [hi]
  omega
theorem conv_back (L : Nat → Int) (m G cap : Nat) (W : World) (h : ∀ i, i < m → W.cell? ⟨G, i, none⟩ = some (.int .u8 (L i)) ∧ 0 ≤ L i ∧ L i ≤ 255) :
    (convert 24 9 (.slice (some ⟨G, 0, none⟩) m cap)).run Yba.prog W = .ok (.string (strOf L m)) W := by
  have hl : ((List.range m).map fun i => (L i).toNat.toUInt8).length = m := by simp
  have := run_convert_bytes_back (P := Yba.prog) W 24 9 5 ⟨G, 0, none⟩ cap ((List.range m).map fun i => (L i).toNat.toUInt8) Yba.underlying24 Yba.underlying5 Yba.underlying9 (by
    intro j hj
    have hj' : j < m := by rw [hl] at hj; exact hj
    obtain ⟨c, h0, h1⟩ := h j hj'
    have e : ((⟨G, 0, none⟩ : Addr).add j) = ⟨G, j, none⟩ := by
      unfold Addr.add
      by_cases h : j = 0
      · subst h; simp
      · simp [h]
    rw [e, c]
    simp
    omega)
  rw [hl] at this
  exact this

theorem info5 : (Yba.prog.info? 5).map (fun i => (i.zero, i.size, i.bytes)) = some (some (.int .u8 0), 1, 1) := by kernel_rfl
/-- the first k good bytes -/
def gds (Z : Nat → Int) (k : Nat) : List Value := (List.range k).map fun i => .int .u8 (gb (Z i))
theorem gds_succ (Z : Nat → Int) (k : Nat) : gds Z k ++ [.int .u8 (gb (Z k))] = gds Z (k + 1) := by simp [gds, List.range_succ]
theorem gds_at (Z : Nat → Int) {k i : Nat} (h : i < k) : (gds Z k)[i]? = some (.int .u8 (gb (Z i))) := by simp [gds, h]
theorem allPl_of {L : Nat → Int} {m : Nat} (h : ∀ i, i < m → pl (L i) = true ∧ 0 ≤ L i ∧ L i ≤ 255) : ∀ k, k ≤ m → allPl (strOf L m) k = true := by
  intro k hk
  induction k with
  | zero => rfl
  | succ k ih =>
    obtain ⟨a, b, c⟩ := h k (by omega)
    simp [allPl, ih (by omega), byt_strOf L m k (by omega) b c, a]
theorem allPl_not {L : Nat → Int} {m p : Nat} (hp : p < m) (h : pl (L p) = false) (h0 : 0 ≤ L p) (h1 : L p ≤ 255) : allPl (strOf L m) m = false :=
  allPl_mono _ (k := p + 1) (by simp [allPl, byt_strOf L m p hp h0 h1, h]) m hp
theorem cell_later {w w' : World} {p : Addr} {v : Value} (h : Below w.heap.size w w') (hc : w.cell? p = some v) : w'.cell? p = some v := by
  have hlt : p.block < w.heap.size := by
    rcases Nat.lt_or_ge p.block w.heap.size with h' | h'
    · exact h'
    · simp [World.cell?, Array.getElem?_eq_none h'] at hc
  rw [h.cell hlt, hc]
end Go.Proofs.Ybulkysw
