/-
  (Write).AppendWords; slices.Clone off the shelf.
-/
import Derived.Test.YbulkypcFmtOps
import Derived.Shelf.Lay
import Derived.Shelf.Slices.Clone
import Derived.Shelf.Slices.Empties
import Derived.Ground.Names2Prog
import Derived.Deep.LoopGhost
import Derived.Deep.RegionWith
import Derived.Deep.DeepCutAuto
import Derived.Maps.AppendAt
import Derived.Deep.RegionHeldLaw
import Derived.Deep.AppendLies
namespace Go.Proofs
open Go.Shelf
shelf_lay Lays2.n16 Nm2 16 at Ybaf as Ybaf.lays16
end Go.Proofs
namespace Go.Proofs.YbulkypcFmt
open Go.Shelf Go.RowKit Go.Lib Go.Stop

theorem info9 : (Ybaf.prog.info? 9).map (fun i => (i.zero, i.size, i.bytes)) = some (some (.string ByteArray.empty), 1, 16) := by kernel_rfl
theorem row_slice {w : World} {base : Nat} {e : TypeId} {size : Nat} {v : Value} {n : Nat} {xs : List Value} (h : w.ownsRow base e size v n xs) : ∃ a c, v = .slice a n c := by
  rcases h.2 with ⟨rfl, rfl⟩ | ⟨g, cap, cur, rfl, _⟩
  · exact ⟨none, 0, rfl⟩
  · exact ⟨_, cap, rfl⟩
theorem row_base {w : World} {base : Nat} {e : TypeId} {size : Nat} {v : Value} {n : Nat} {xs : List Value} (h : w.ownsRow base e size v n xs) {k : Nat} (hk : v.ownBlock = some k) : base ≤ k ∧ k < w.heap.size := by
  rcases h.2 with ⟨rfl, rfl⟩ | ⟨g, cap, cur, rfl, hb, hg, _⟩
  · simp [Value.ownBlock] at hk
  · simp [Value.ownBlock] at hk
    subst hk
    exact ⟨hb, (Array.getElem?_eq_some_iff.1 hg).1⟩
theorem row_of_block {w W : World} {base : Nat} {e : TypeId} {size : Nat} {v : Value} {n : Nat} {xs : List Value} (h : w.ownsRow base e size v n xs) (hk : ∀ k, v.ownBlock = some k → W.heap[k]? = w.heap[k]?) : W.ownsRow base e size v n xs := by
  refine ⟨h.1, ?_⟩
  rcases h.2 with hn | ⟨g, cap, cur, rfl, hbs, hgg, rest⟩
  · exact .inl hn
  · exact .inr ⟨g, cap, cur, rfl, hbs, (hk g rfl).trans hgg, rest⟩
theorem row_below {w W : World} {base : Nat} {e : TypeId} {size : Nat} {v : Value} {n : Nat} {xs : List Value} (h : w.ownsRow base e size v n xs) (hb : Below w.heap.size w W) : W.ownsRow base e size v n xs :=
  row_of_block h fun k hk => hb.block k (row_base h hk).2
theorem cells_new (w : World) (xs : List Value) (t : TypeId) : ∀ j u, xs[j]? = some u → (w.alloc (.cells xs.toArray t)).cell? ((⟨w.heap.size, 0, none⟩ : Addr).add j) = some u := by
  intro j u hj
  have e : ((⟨w.heap.size, 0, none⟩ : Addr).add j) = ⟨w.heap.size, j, none⟩ := by
    unfold Addr.add
    by_cases h : j = 0
    · subst h; simp
    · simp [h]
  rw [e]
  simp
  exact hj

def Five (b : Nat) (x : Int) (key value origin : ByteArray) (W : World) : Prop :=
  W.cell? ⟨b, 0, none⟩ = some (.int .u8 x) ∧ W.cell? ⟨b, 1, none⟩ = some (.string key) ∧ W.cell? ⟨b, 2, none⟩ = some (.string value) ∧ W.cell? ⟨b, 3, none⟩ = some (.string origin) ∧ W.cell? ⟨b, 4, none⟩ = some (.slice none 0 0)
theorem Five.below {b : Nat} {x : Int} {key value origin : ByteArray} {w W : World} {B : Nat} (h : Five b x key value origin w) (hb : Below B w W) (hB : b < B) : Five b x key value origin W :=
  ⟨(hb.cell (p := ⟨b, 0, none⟩) hB).trans h.1, (hb.cell (p := ⟨b, 1, none⟩) hB).trans h.2.1, (hb.cell (p := ⟨b, 2, none⟩) hB).trans h.2.2.1, (hb.cell (p := ⟨b, 3, none⟩) hB).trans h.2.2.2.1, (hb.cell (p := ⟨b, 4, none⟩) hB).trans h.2.2.2.2⟩
theorem Five.grown {b : Nat} {x : Int} {key value origin : ByteArray} {w W : World} {r : Option Nat} (h : Five b x key value origin w) (hg : w.grownBy W r) (hr : some b ≠ r) : Five b x key value origin W :=
  ⟨hg.cell h.1 hr, hg.cell h.2.1 hr, hg.cell h.2.2.1 hr, hg.cell h.2.2.2.1 hr, hg.cell h.2.2.2.2 hr⟩

set_option maxHeartbeats 2000000 in
set_option maxRecDepth 100000 in
theorem words_any (F : Interp) (x : Int) (key value origin : ByteArray) (va : Option Addr) (vc n B : Nat) (xs : List Value) (w : World) (h0 : 0 ≤ x) (h1 : x ≤ 255) (hn : n ≤ 1024) (hB : 0 < B) (hBw : B ≤ w.heap.size) (hG : Good F w)
    (hown : w.ownsRow B 9 1 (.slice va n vc) n xs) :
    Calls Ybaf.prog 6 #[.agg #[.int .u8 x, .string key, .string value, .string origin, .slice none 0 0], .slice va n vc] w fun e w' => ∃ v s, e = .returned v ∧ (1 ≤ x → x ≤ 4 → s = nmB x.toNat) ∧ Below B w w' ∧
      w'.ownsRow B 9 1 v (if x = 2 ∨ x = 3 then n + 5 else n + 4) (xs ++ [.string origin, .string ⟨#[45]⟩, .string s, .string key] ++ if x = 2 ∨ x = 3 then [.string value] else []) := by
  obtain ⟨i0, hi0, hz0, hz1, hz2⟩ := info_parts info9
  obtain ⟨wA, hwA⟩ : ∃ wA, wA = (w.alloc (.cells #[.int .u8 x, .string key, .string value, .string origin, .slice none 0 0] 29)).drew := ⟨_, rfl⟩
  have hA0 : Below w.heap.size w wA := by rw [hwA]; exact ((Below.refl _ _).alloc (Nat.le_refl _) _).drew
  have HO : Hid (wA.ownsRow B 9 1 (.slice va n vc) n xs) := row_below hown hA0
  have HG : Hid (Good F wA) := hG.later (by omega) hA0
  have hAs : wA.heap.size = w.heap.size + 1 := by rw [hwA]; simp
  have HW : Hid (wA = (w.alloc (.cells #[.int .u8 x, .string key, .string value, .string origin, .slice none 0 0] 29)).drew) := hwA
  have hkr : Hid (∀ k, (Value.slice va n vc).ownBlock = some k → B ≤ k ∧ k < w.heap.size) := fun k hk => row_base hown hk
  have a0 : wA.cell? ⟨w.heap.size, 0, none⟩ = some (.int .u8 x) := by rw [hwA]; simp
  have a1 : wA.cell? ⟨w.heap.size, 1, none⟩ = some (.string key) := by rw [hwA]; simp
  have a2 : wA.cell? ⟨w.heap.size, 2, none⟩ = some (.string value) := by rw [hwA]; simp
  have a3 : wA.cell? ⟨w.heap.size, 3, none⟩ = some (.string origin) := by rw [hwA]; simp
  have a4 : wA.cell? ⟨w.heap.size, 4, none⟩ = some (.slice none 0 0) := by rw [hwA]; simp
  have cur0 : Hid (Below wA.heap.size wA ((w.alloc (.cells #[.int .u8 x, .string key, .string value, .string origin, .slice none 0 0] 29)).drew)) := by rw [← HW.out]; exact Below.refl _ _
  have good0 : Hid (Good F ((w.alloc (.cells #[.int .u8 x, .string key, .string value, .string origin, .slice none 0 0] 29)).drew)) := HG.out.later (by omega) cur0.out
  clear hown hG hwA
  go_enter Ybaf.func6, Ybaf.ntmps6
  go_wp2_with fail
  have hne : Hid (some w.heap.size ≠ (Value.slice va n vc).ownBlock) := fun e => by have := (hkr.out _ e.symm).2; omega
  have five0 : Hid (Five w.heap.size x key value origin wA) := ⟨a0, a1, a2, a3, a4⟩
  have hlt : w.heap.size < wA.heap.size := by omega
  go_region_held_law (fun W => W.cell? ⟨w.heap.size, 0, none⟩ = some (.int .u8 x) ∧ W.cell? ⟨w.heap.size, 1, none⟩ = some (.string key) ∧ W.cell? ⟨w.heap.size, 2, none⟩ = some (.string value) ∧ W.cell? ⟨w.heap.size, 3, none⟩ = some (.string origin) ∧ W.cell? ⟨w.heap.size, 4, none⟩ = some (.slice none 0 0))
    (first | exact five0.out.below cur0.out hlt | exact five0.out.below cv hlt | exact five0.out.below cs hlt | exact (five0.out.below (cs.alloc cs.size _) hlt) | exact (five0.out.below (cv.alloc cv.size _) hlt) | exact (five0.out.below (cs.alloc cs.size _) hlt).grown gr3 hne.out | exact (five0.out.below (cv.alloc cv.size _) hlt).grown gr3 hne.out)
    (first
    | (refine step_append_lies _ (by rfl) (.tmp 5) (.tmp 16) 22 (by rfl) B 9 i0 (.string ByteArray.empty) 1 16 Ybaf.underlying22 hi0 hz0 hz1 hz2 rfl (by decide) (.slice va n vc) n xs (by rfl) ((row_below HO.out cs).alloc _) ⟨ws.heap.size, 0, none⟩ 4 4 [.string origin, .string ⟨#[45]⟩, .string s, .string key] (by rfl) (by rfl) (cells_new _ _ _) (by intro u hu; simp at hu; rcases hu with rfl | rfl | rfl | rfl <;> rfl) (by decide) (by unfold maxLen; omega) (by omega) (by have := cs.size; simp; omega) (ws.heap.size + 1) (by simp) ?_; intro g3 c3 w3 own3 gr3 at3 lt3; have cur3 := cs)
    | (refine step_append_lies _ (by rfl) (.tmp 5) (.tmp 16) 22 (by rfl) B 9 i0 (.string ByteArray.empty) 1 16 Ybaf.underlying22 hi0 hz0 hz1 hz2 rfl (by decide) (.slice va n vc) n xs (by rfl) ((row_below HO.out cv).alloc _) ⟨wv.heap.size, 0, none⟩ 4 4 [.string origin, .string ⟨#[45]⟩, .string s, .string key] (by rfl) (by rfl) (cells_new _ _ _) (by intro u hu; simp at hu; rcases hu with rfl | rfl | rfl | rfl <;> rfl) (by decide) (by unfold maxLen; omega) (by omega) (by have := cv.size; simp; omega) (wv.heap.size + 1) (by simp) ?_; intro g3 c3 w3 own3 gr3 at3 lt3; have cur3 := cv)
    | (go_at_call 10; refine (vecstr _).mono ?_; rintro e wv ⟨rfl, bv⟩; first | (have cv := cs.trans (bv.mono cs.size)) | (have cv := cur0.out.trans (bv.mono cur0.out.size)))
    | (go_at_call 11; refine (opstr F x _ h0 h1 (by first | exact HG.out.later (by omega) cv | exact good0.out)).mono ?_; rintro e ws ⟨s, rfl, hs, bs⟩; first | (have cs := cv.trans (bs.mono cv.size)) | (have cs := cur0.out.trans (bs.mono cur0.out.size))))
  all_goals
    have f3 : Five w.heap.size x key value origin w3 := (five0.out.below (cur3.alloc cur3.size _) hlt).grown gr3 hne.out
    obtain ⟨p0, p1, p2, p3, p4⟩ := f3
    have hb3 : Below B w w3 := (((hA0.mono hBw).trans (cur3.mono (by omega))).alloc (by have := cur3.size; omega) _).grown gr3 (by have := cur3.size; simp; omega) (fun k hk => (hkr.out k hk).1)
    have OW3 : Hid (w3.ownsRow B 9 1 (.slice (some ⟨g3, 0, none⟩) (n + 4) c3) (n + 4) (xs ++ [.string origin, .string ⟨#[45]⟩, .string s, .string key])) := own3
    have hs3 := hb3.size
    have hs3' : B ≤ w3.heap.size := by omega
    have HB3 : Hid (Below B w w3) := hb3
    clear own3 gr3 hb3 cur3 p1 p3 p4
    by_cases hx : x = 2 ∨ x = 3
    · have hd : decide (x = 2 ∨ x = 3) = true := by simp [hx]
      have hw12 := fun W => wval x W
      rw [hd] at hw12
      have HX : Hid (x = 2 ∨ x = 3) := hx
      clear hx hd
      go_wp2_with (first
        | (go_at_call 12; refine (hw12 _).mono ?_; rintro e w' ⟨rfl, hw'⟩; have hw'' := hw'.symm; clear hw'; subst hw'')
        | (at_builtin; refine wpList_append_own_at _ rfl (.tmp 21) (.tmp 24) 22 rfl B 9 i0 (.string ByteArray.empty) 1 16 Ybaf.underlying22 hi0 hz0 hz1 hz2 rfl (by decide) (.slice (some ⟨g3, 0, none⟩) (n + 4) c3) (n + 4) _ rfl (OW3.out.alloc _) ⟨w3.heap.size, 0, none⟩ 1 1 [.string value] rfl rfl (cell_one_new _ _ _) (by intro u hu; simp at hu; subst hu; rfl) (by unfold maxLen; omega) (by omega) (by simp; omega) ?_; intro v' w4 own4 gr4 _ _))
      go_ret
      refine ⟨_, rfl, s, hs, (HB3.out.alloc hs3' _).grown gr4 (by simp; omega) (fun k hk => (row_base OW3.out hk).1), ?_⟩
      simpa [HX.out, List.append_assoc] using own4
    · have hd : decide (x = 2 ∨ x = 3) = false := by simp [hx]
      have hw12 := fun W => wval x W
      rw [hd] at hw12
      have HX : Hid (¬ (x = 2 ∨ x = 3)) := hx
      clear hx hd
      go_wp2_with (first
        | (go_at_call 12; refine (hw12 _).mono ?_; rintro e w' ⟨rfl, hw'⟩; have hw'' := hw'.symm; clear hw'; subst hw''))
      go_ret
      refine ⟨_, rfl, s, hs, HB3.out, ?_⟩
      simpa [HX.out] using OW3.out
end Go.Proofs.YbulkypcFmt
