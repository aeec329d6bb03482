/-
  LawS1233CModel: the walk.
-/
import Derived.Test.YbulkymyUnc
namespace Go.Proofs.Ybulkymy
open Go.RowKit Go.Maps

theorem nms_take (S : Nat → ByteArray) (n : Nat) : ((((List.range n).map S).take n).map Value.string) = nms S n := by
  unfold nms
  rw [List.take_of_length_le (by simp), List.map_map]
  rfl
theorem clone_any (B : Nat) (a : Option Addr) (n c : Nat) (S : Nat → ByteArray) (W : World) (hn : n ≤ 1024) (h : Strs W B (.slice a n c) n S) :
    Calls Yba.prog 10 #[.slice a n c] W fun e w' => ∃ v', e = .returned v' ∧ w'.ownsRow W.heap.size 9 1 v' n (nms S n) ∧ Below W.heap.size W w' := by
  obtain ⟨a', c', heq, hc, hst⟩ := h
  obtain ⟨rfl, rfl⟩ : a = a' ∧ c = c' := by simpa using heq
  rcases Nat.eq_zero_or_pos n with h0 | h0
  · subst h0
    cases a with
    | none => exact (clone_nil 0 c W).mono fun e w' ⟨h1, h2⟩ => by subst h2; exact ⟨_, h1, World.ownsRow_nil _ _ _ _, Below.refl _ _⟩
    | some a => exact (clone_zero a c W).mono fun e w' ⟨v', h1, h2, _, h3⟩ => ⟨v', h1, h2, h3⟩
  · obtain ⟨b, o, rfl, _, hcl⟩ := hst h0
    refine (clone_some b o n c ((List.range n).map S) W (by simp) (by omega) ?_).mono fun e w' ⟨v', h1, h2, _, h3⟩ => ⟨v', h1, by rw [← nms_take]; exact h2, h3⟩
    intro j hj
    have hj' : j < n := by simpa using hj
    rw [hcl j hj']
    simp [List.getD, hj']
theorem equal_any (b1 b2 n : Nat) (v1 v2 : Value) (xs : List ByteArray) (W : World) (hn : n ≤ 1024) (h1 : W.ownsRow b1 9 1 v1 n (xs.map Value.string)) (h2 : W.ownsRow b2 9 1 v2 n (xs.map Value.string)) :
    Calls Yba.prog 13 #[v1, v2] W fun e w' => e = .returned (.bool true) ∧ ∃ q, w' = W.drewN q := by
  have hl : xs.length = n := by have := h1.1; simpa using this
  rcases Nat.eq_zero_or_pos n with h0 | h0
  · subst h0
    obtain ⟨a1, c1, rfl⟩ := row_slice h1
    obtain ⟨a2, c2, rfl⟩ := row_slice h2
    exact (equal_empty a1 a2 c1 0 c2 W (by omega)).mono fun e w' ⟨h1, h2⟩ => ⟨by rw [h1]; rfl, 0, h2⟩
  · have key : ∀ {b : Nat} {v : Value}, W.ownsRow b 9 1 v n (xs.map Value.string) → ∃ g c, v = .slice (some ⟨g, 0, none⟩) n c ∧ ∀ j, j < xs.length → W.cell? ⟨g, 0 + j, none⟩ = some (.string (xs.getD j ByteArray.empty)) := by
      intro b v h
      rcases h.2 with ⟨_, h'⟩ | ⟨g, cap, cur, rfl, _⟩
      · omega
      · refine ⟨g, cap, rfl, fun j hj => ?_⟩
        rw [Nat.zero_add, h.cellAt j (by omega)]
        simp [List.getD, hj]
    obtain ⟨g1, c1, rfl, k1⟩ := key h1
    obtain ⟨g2, c2, rfl, k2⟩ := key h2
    exact (equal_some g1 0 n c1 g2 0 n c2 xs xs W (by omega) (by omega) (by omega) (by omega) k1 k2).mono fun e w' ⟨h1, h2⟩ => ⟨by rw [h1]; simp, h2⟩

theorem cell_new (w : World) (A : Array Value) (t : TypeId) (j : Nat) : (w.alloc (.cells A t)).cell? ⟨w.heap.size, j, none⟩ = A[j]? := by
  simp
theorem frozen_new (w : World) (A : Array Value) (t : TypeId) (j : Nat) : (w.alloc (.cells A t)).frozen? ⟨w.heap.size, j, none⟩ = false := by
  simp
theorem cell_first (w : World) (A : Array Value) (t : TypeId) (o1 o2 : Obj) (j : Nat) : (((w.alloc (.cells A t)).alloc o1).alloc o2).cell? ⟨w.heap.size, j, none⟩ = A[j]? :=
  (Below.cell (B := w.heap.size + 1) (w := w.alloc (.cells A t)) (((Below.refl _ _).alloc (by simp) _).alloc (by simp) _) (by simp)).trans (cell_new w A t j)
theorem logd_new (w : World) (o : Obj) : Logd (((w.alloc o).alloc (.cells #[.slice none 0 0] 37)).alloc (.cells #[.int .i64 0] 3)) (w.heap.size + 1) (.slice none 0 0) 0 [] := by
  have b : Below (w.heap.size + 2) ((w.alloc o).alloc (.cells #[.slice none 0 0] 37)) (((w.alloc o).alloc (.cells #[.slice none 0 0] 37)).alloc (.cells #[.int .i64 0] 3)) := (Below.refl _ _).alloc (by simp) _
  have e1 : (w.alloc o).heap.size = w.heap.size + 1 := by simp
  have e2 : ((w.alloc o).alloc (.cells #[.slice none 0 0] 37)).heap.size = w.heap.size + 1 + 1 := by simp
  refine ⟨(b.cell (p := ⟨w.heap.size + 1, 0, none⟩) (by simp)).trans ?_, (b.frozen (p := ⟨w.heap.size + 1, 0, none⟩) (by simp)).trans ?_, ?_, ?_, World.ownsRow_nil _ _ _ _⟩
  · rw [← e1, cell_new]; rfl
  · rw [← e1, frozen_new]
  · rw [← e2, cell_new]; rfl
  · rw [← e2, frozen_new]
theorem nms_map (S : Nat → ByteArray) (n : Nat) : (((List.range n).map S).map Value.string) = nms S n := by
  unfold nms
  rw [List.map_map]
  rfl
theorem sep_step {w : World} {base : Nat} {e : TypeId} {size : Nat} {v cv cv' : Value} {n : Nat} {xs : List Value} {o : Obj} (h : w.ownsRow base e size v n xs) (hs : ∀ k, v.ownBlock = some k → cv.ownBlock ≠ some k) (hb : cv'.ownBlock = cv.ownBlock ∨ cv'.ownBlock = some (w.alloc o).heap.size) : ∀ k, v.ownBlock = some k → cv'.ownBlock ≠ some k := by
  intro k hk e
  rcases hb with h1 | h1
  · exact hs k hk (h1 ▸ e)
  · have := (row_base h hk).2
    rw [h1] at e
    simp at e
    omega
theorem strs_of_row {w : World} {base : Nat} {v : Value} {n : Nat} {S : Nat → ByteArray} (h : w.ownsRow base 9 1 v n (nms S n)) : Strs w w.heap.size v n S := by
  obtain ⟨a, c, rfl⟩ := row_slice h
  rcases h.2 with ⟨h1, rfl⟩ | ⟨g, cap, cur, h1, _, hg, hc, _⟩
  · exact ⟨a, c, rfl, Nat.zero_le _, fun h => absurd h (Nat.lt_irrefl _)⟩
  · obtain ⟨rfl, rfl⟩ : a = some ⟨g, 0, none⟩ ∧ c = cap := by simpa using h1
    refine ⟨_, c, rfl, hc, fun _ => ⟨g, 0, rfl, (Array.getElem?_eq_some_iff.1 hg).1, fun i hi => ?_⟩⟩
    rw [Nat.zero_add, h.cellAt i (by omega)]
    simp [nms, hi]
set_option maxHeartbeats 2000000 in
set_option maxRecDepth 100000 in
theorem cm_near (oa : Option Addr) (n oc : Nat) (sa : Option Addr) (ns sc : Nat) (ha : Option Addr) (nh hc' : Nat) (S : Nat → ByteArray) (Q Z : Nat → Int) (w : World) (hn : n ≤ 1024) (hns : ns ≤ 1024) (hnh : nh ≤ 1024)
    (hS : Strs w w.heap.size (.slice oa n oc) n S) (hQ : Nums w w.heap.size sa ns sc Q) (hZ : Nums w w.heap.size ha nh hc' Z) (hsz : ∀ i, i < n → (S i).size ≤ maxLen) :
    Calls Yba.prog 5 #[.slice oa n oc, .slice sa ns sc, .slice ha nh hc'] w fun e w' => e = .returned (.bool true) ∧ Below w.heap.size w w' := by
  have hmm := @run_makeMap Yba.prog
  obtain ⟨i0, hi0, hz0, hz1, hz2⟩ := info_parts Yba.info9
  have HS : Hid (Strs w w.heap.size (.slice oa n oc) n S) := hS
  have HQ : Hid (Nums w w.heap.size sa ns sc Q) := hQ
  have HZ : Hid (Nums w w.heap.size ha nh hc' Z) := hZ
  have HN : Hid (∀ i, i < n → (S i).size ≤ maxLen) := hsz
  have e1 : ¬ (1024 : Int) < n := by omega
  have e2 : ¬ (1024 : Int) < ns := by omega
  have e3 : ¬ (1024 : Int) < nh := by omega
  clear hS hQ hZ hsz
  obtain ⟨wA, hwA⟩ : ∃ wA, wA = w.alloc (.cells #[.slice ha nh hc'] 38) := ⟨_, rfl⟩
  have hA0 : Below w.heap.size w wA := by rw [hwA]; exact (Below.refl _ _).alloc (Nat.le_refl _) _
  have hAs : wA.heap.size = w.heap.size + 1 := by rw [hwA]; simp
  have hAh : wA.cell? ⟨w.heap.size, 0, none⟩ = some (.slice ha nh hc') := by rw [hwA]; simp
  have HWA : Hid (wA = w.alloc (.cells #[.slice ha nh hc'] 38)) := hwA
  clear hwA
  go_enter Yba.func5, Yba.ntmps5
  go_wp2
  go_loopw [37] (fun i wr => ∃ (k : Nat) (D : DataW Unit), i = .int .i64 k ∧ k ≤ n ∧ wr.ownsMap Yba.prog 9 rE (w.heap.size + 1) k D ∧ Below wA.heap.size wA wr) (fun i _ => n - (intOf i).toNat)
  case atStart => exact ⟨0, .map [], rfl, Nat.zero_le _, by have := World.ownsMap_made (H := Unit) (w.alloc (.cells #[.slice ha nh hc'] 38)) Yba.prog 9 rE; simpa using this, by rw [HWA.out]; exact (Below.refl _ _).alloc (Nat.le_refl _) _⟩
  case round =>
    obtain ⟨k, D, rfl, hk, hown, hbel⟩ := hrel
    have hbw : Below w.heap.size w wr := hA0.trans (hbel.mono (by omega))
    by_cases hlt : k < n
    · obtain ⟨oa', oc', heq, hnc, hstr⟩ := HS.out.later hbw
      obtain ⟨rfl, rfl⟩ : oa = oa' ∧ oc = oc' := by simpa using heq
      obtain ⟨ob, oo, rfl, _, hcells⟩ := hstr (by omega)
      have c0 := hcells k hlt
      have HQ1 : Hid (Nums wr w.heap.size sa ns sc Q) := HQ.out.later hbw
      have hsk := HN.out k hlt
      have HO : Hid (wr.ownsMap Yba.prog 9 rE (w.heap.size + 1) k D) := hown
      have HB : Hid (Below wA.heap.size wA wr) := hbel
      clear hcells hstr heq hown hbel hbw
      go_wp2_with (first
        | (go_at_call 9; refine (cat_any w.heap.size sa ns sc Q k _ hns HQ1.out).mono ?_; rintro e w' ⟨rfl, rfl⟩)
        | (at_mapUpdate; refine wpList_mapUpdate_own _ rfl _ _ _ 39 rfl 9 42 law9 Yba.underlying39 rE (w.heap.size + 1) k _ rfl HO.out (by unfold maxLen; omega) _ _ _ rfl rfl (Go.WideMaps.keyOf_string_mk Yba.underlying9 hsk) _ [] (by exact rfl) ?_; intro w2 hown2 hg2; go_frame))
      go_roundw
      case rel => exact ⟨k + 1, _, by go_num, by omega, hown2, HB.out.grown hg2 HB.out.size (by simp; omega)⟩
      case measure => simp [intOf]; omega
    · obtain rfl : k = n := by omega
      have HO : Hid (wr.ownsMap Yba.prog 9 rE (w.heap.size + 1) k D) := hown
      have HB : Hid (Below wA.heap.size wA wr) := hbel
      have HS1 : Hid (Strs wr w.heap.size (.slice oa k oc) k S) := HS.out.later hbw
      clear hown hbel
      go_wp2_with (first
        | (go_at_call 10; refine (clone_any w.heap.size oa k oc S wr hn HS1.out).mono ?_; rintro e w2 ⟨ov, rfl, hov, hb2⟩; obtain ⟨va, vc, rfl⟩ := row_slice hov))
      have hws := HB.out.size
      have hw2 := hb2.size
      have hwr : Below w.heap.size w wr := hA0.trans (HB.out.mono (by omega))
      have F1 : w2.cell? ⟨w.heap.size, 0, none⟩ = some (.slice ha nh hc') := (hb2.cell (p := ⟨w.heap.size, 0, none⟩) (by simp; omega)).trans ((HB.out.cell (p := ⟨w.heap.size, 0, none⟩) (by simp; omega)).trans hAh)
      have hbw2 : Below w.heap.size w w2 := hwr.trans (hb2.mono (by omega))
      have F2 : Nums w2 w2.heap.size ha nh hc' Z := (HZ.out.later hbw2).mono (by omega)
      have hmlt := HO.out.lt
      have F3 : w2.ownsMap Yba.prog 9 rE (w.heap.size + 1) k D := own_under HO.out hb2 hmlt
      have F4 : Strs w2 w2.heap.size (.slice va k vc) k S := strs_of_row hov
      refine (unc_any (w2.heap.size + 1) w.heap.size w2.heap.size (w.heap.size + 1) (.slice va k vc) k S ha nh hc' Z D _ hn hnh ?_ (by omega) (by omega) (by omega) ?_ ?_ ?_ ?_ ?_ HN.out ?_ ?_).mono ?_
      · simp
      · refine (Below.cell (B := w2.heap.size) (w := w2) ?_ ?_).trans F1
        · exact (((Below.refl _ _).alloc (Nat.le_refl _) _).alloc (by simp) _).alloc (by simp; omega) _
        · simp; omega
      · exact (F2.later ((((Below.refl _ _).alloc (Nat.le_refl _) _).alloc (by simp) _).alloc (by simp; omega) _)).mono (by omega)
      · rw [cell_first]; rfl
      · rw [cell_first]; rfl
      · exact (F4.later ((((Below.refl _ _).alloc (Nat.le_refl _) _).alloc (by simp) _).alloc (by simp; omega) _)).mono (by omega)
      · exact ((F3.alloc _).alloc _).alloc _
      · exact logd_new _ _
      rintro e w5 ⟨got, i, lv, rfl, hstop, hgot, hlog, hb5⟩
      obtain ⟨ga, gc, rfl⟩ := row_slice hgot
      have HX : Below w2.heap.size w2 w5 := ((((Below.refl _ _).alloc (Nat.le_refl _) _).alloc (by simp) _).alloc (by simp; omega) _).trans (hb5.mono (by omega))
      have hw5 := HX.size
      have hbw5 : Below w.heap.size w w5 := hbw2.trans (HX.mono (by omega))
      have G1 : w5.cell? ⟨w.heap.size, 0, none⟩ = some (.slice ha nh hc') := (HX.cell (p := ⟨w.heap.size, 0, none⟩) (by simp; omega)).trans F1
      have G2 : Hid (Nums w5 w5.heap.size ha nh hc' Z) := (HZ.out.later hbw5).mono (by omega)
      have G3 : Hid (w5.ownsMap Yba.prog 9 rE (w.heap.size + 1) k D) := own_under F3 HX (by omega)
      have G4 : Hid (Strs w5 w5.heap.size (.slice oa k oc) k S) := (HS.out.later hbw5).mono (by omega)
      have hl5 : w2.heap.size + 1 + 2 ≤ w5.heap.size := by have := hb5.size; simp at this; omega
      obtain ⟨la, lc, hlv⟩ := row_slice hlog.2.2.2.2
      subst hlv
      clear F1 F2 F3 F4 hb5 hov HO HB HS HS1 HQ
      go_wp2
      go_loopw [60, 15, 16, 17] (fun i v cv j W => ∃ x : Nat, i = .int .i64 x ∧ j = .int .i64 x ∧ x ≤ k ∧ Hid (∀ j, j < x → (K nh Z D S j).length ≠ 256) ∧ W.ownsRow w5.heap.size 9 1 v (K nh Z D S x).length ((K nh Z D S x).map Value.string) ∧ W.ownsRow w5.heap.size 9 1 cv x (nms S x) ∧ Below w5.heap.size w5 W ∧ Hid (∀ k, v.ownBlock = some k → cv.ownBlock ≠ some k)) (fun i _ _ _ _ => k - (intOf i).toNat)
      case atStart => exact ⟨0, rfl, rfl, Nat.zero_le _, fun j hj => by omega, World.ownsRow_nil _ _ _ _, World.ownsRow_nil _ _ _ _, Below.refl _ _, fun k hk => by simp [Value.ownBlock] at hk⟩
      case round =>
        obtain ⟨x, rfl, rfl, hx, hno, hown, hcv, hbel, hsep⟩ := hrel
        obtain ⟨va', vc', rfl⟩ := row_slice hown
        obtain ⟨ca, cc, rfl⟩ := row_slice hcv
        have hKl := K_le nh Z D S x
        have hKv : Hid (wr.ownsRow w5.heap.size 9 1 (.slice va' (K nh Z D S x).length vc') (K nh Z D S x).length ((K nh Z D S x).map Value.string)) := hown
        have hCv : Hid (wr.ownsRow w5.heap.size 9 1 (.slice ca x cc) x (nms S x)) := hcv
        obtain ⟨kl, hkl⟩ : ∃ kl, kl = (K nh Z D S x).length := ⟨_, rfl⟩
        have HKL : Hid (kl = (K nh Z D S x).length) := hkl
        have HB2 : Hid (Below w5.heap.size w5 wr) := hbel
        rw [← hkl] at hKl ⊢
        clear hown hcv hkl hbel
        by_cases hlt : x < k
        · obtain ⟨oa', oc', heq, hnc, hstr⟩ := G4.out.later HB2.out
          obtain ⟨rfl, rfl⟩ : oa = oa' ∧ oc = oc' := by simpa using heq
          obtain ⟨ob, oo, rfl, _, hcells⟩ := hstr (by omega)
          have c0 := hcells x hlt
          clear hcells hstr heq
          by_cases h256 : kl = 256
          · subst h256
            obtain rfl : i = x := hstop.uniq ⟨hx, .inr HKL.out.symm, hno.out⟩
            have hwant : Hid (wr.ownsRow w5.heap.size 9 1 (.slice va' 256 vc') (K nh Z D S i).length ((K nh Z D S i).map Value.string)) := by rw [HKL.out]; exact hKv.out
            have hgot' : Hid (wr.ownsRow (w2.heap.size + 1 + 2) 9 1 (.slice ga (K nh Z D S i).length gc) (K nh Z D S i).length ((K nh Z D S i).map Value.string)) := row_of_block hgot fun k hk => HB2.out.block k (row_base hgot hk).2
            have hlg : Hid (wr.ownsRow (w2.heap.size + 1 + 2) 9 1 (.slice la i lc) i (((List.range i).map S).map Value.string)) := by rw [nms_map]; exact row_of_block hlog.2.2.2.2 fun k hk => HB2.out.block k (row_base hlog.2.2.2.2 hk).2
            have hcl : Hid (wr.ownsRow w5.heap.size 9 1 (.slice ca i cc) i (((List.range i).map S).map Value.string)) := by rw [nms_map]; exact hCv.out
            have lcell : wr.cell? ⟨w2.heap.size + 1, 0, none⟩ = some (.slice la i lc) := (HB2.out.cell (p := ⟨w2.heap.size + 1, 0, none⟩) (by simp; omega)).trans hlog.1
            have hki : (K nh Z D S i).length ≤ 1024 := by have := K_le nh Z D S i; omega
            have hi1 : i ≤ 1024 := by omega
            go_wp2_with (first
              | (go_at_call 13; refine (equal_any _ _ _ _ _ _ _ hki (by exact hgot'.out) (by exact hwant.out)).mono ?_; rintro e w' ⟨rfl, q, rfl⟩)
              | (go_at_call 13; refine (equal_any _ _ _ _ _ _ _ hi1 (by exact hlg.out) (by exact hcl.out)).mono ?_; rintro e w' ⟨rfl, q', rfl⟩))
            go_ret
            exact ⟨rfl, (hbw2.trans ((HX.mono (by omega)).trans (HB2.out.mono (by omega)))).trans ⟨rfl, rfl, rfl, Nat.le_refl _, fun _ _ => rfl⟩⟩
          · have h256' : ¬ (kl : Int) = 256 := by omega
            have hsx := HN.out x hlt
            have hfld := fld42
            have hrow : wr.ownsRow w5.heap.size 9 1 (.slice va' kl vc') kl ((K nh Z D S x).map Value.string) := by rw [HKL.out]; exact hKv.out
            have hsep0 : ∀ k, (Value.slice va' kl vc').ownBlock = some k → (Value.slice ca x cc).ownBlock ≠ some k := by rw [HKL.out]; exact hsep.out
            have HR : Hid (wr.ownsRow w5.heap.size 9 1 (.slice va' kl vc') kl ((K nh Z D S x).map Value.string)) := hrow
            have HSP : Hid (∀ k, (Value.slice va' kl vc').ownBlock = some k → (Value.slice ca x cc).ownBlock ≠ some k) := hsep0
            clear hrow hsep0
            have hwr5 := HB2.out.size
            have hno1 : Hid (∀ j, j < x + 1 → (K nh Z D S j).length ≠ 256) := by
              intro j hj
              rcases Nat.lt_succ_iff_lt_or_eq.1 hj with h | h
              · exact hno.out j h
              · subst h; rw [← HKL.out]; exact h256
            by_cases hc : nat0 nh Z x < qa (say D (S x))
            · go_wp2_with (first
                | (at_builtin; refine wpList_append_own_at _ rfl (.tmp 67) (.tmp 69) 37 rfl w5.heap.size 9 i0 (.string ByteArray.empty) 1 16 Yba.underlying37 hi0 hz0 hz1 hz2 rfl (by decide) (.slice ca x cc) x _ rfl (hCv.out.alloc _) ⟨wr.heap.size, 0, none⟩ 1 1 [.string (S x)] rfl rfl (cell_one_new _ _ _) (by intro u hu; simp at hu; subst hu; rfl) (by unfold maxLen; omega) (by omega) (by simp; omega) ?_; intro cv' w7 own7 gr7 _ hbk7; have hb7 : Below w5.heap.size wr w7 := ((Below.refl _ _).alloc hwr5 _).grown gr7 (by simp; omega) (fun k hk => (row_base hCv.out hk).1); have HB7 : Hid (Below w5.heap.size w5 w7) := HB2.out.trans hb7; have hcell7 := (HB7.out.cell (p := ⟨w.heap.size, 0, none⟩) (by simp; omega)).trans G1; have HN7 : Hid (Nums w7 w5.heap.size ha nh hc' Z) := G2.out.later HB7.out; have look7 := lookE hsx (own_under G3.out HB7.out (by omega)); have HR7 : Hid (w7.ownsRow w5.heap.size 9 1 (.slice va' kl vc') kl ((K nh Z D S x).map Value.string)) := row_of_block HR.out (fun k hk => by rw [gr7.block k (by have := (row_base HR.out hk).2; simp; omega) (fun e => HSP.out k hk e.symm), Below.heap_alloc _ _ _ (row_base HR.out hk).2]); have OWN7 : Hid (w7.ownsRow w5.heap.size 9 1 cv' (x + 1) (nms S (x + 1))) := (by rw [← nms_succ]; exact own7); have hs7 := hb7.size; have SEP7 : Hid (∀ k, (Value.slice va' kl vc').ownBlock = some k → cv'.ownBlock ≠ some k) := sep_step HR.out HSP.out hbk7; clear hb7 own7 gr7 hbk7; obtain ⟨ca', cc', rfl⟩ := row_slice OWN7.out)
                | (at_builtin; refine wpList_append_own_at _ rfl (.tmp 82) (.tmp 84) 37 rfl w5.heap.size 9 i0 (.string ByteArray.empty) 1 16 Yba.underlying37 hi0 hz0 hz1 hz2 rfl (by decide) (.slice va' kl vc') kl _ rfl (HR7.out.alloc _) ⟨w7.heap.size, 0, none⟩ 1 1 [.string (S x)] rfl rfl (cell_one_new _ _ _) (by intro u hu; simp at hu; subst hu; rfl) (by unfold maxLen; omega) (by omega) (by simp; omega) ?_; intro v' w8 own8 gr8 _ hbk8)
                | (go_at_call 9; refine (cat_any w5.heap.size ha nh hc' Z x _ hnh HN7.out).mono ?_; rintro e w' ⟨rfl, hw'⟩; have hw'' := hw'.symm; clear hw'; subst hw''))
              go_roundw
              case rel =>
                have hb8 : Below w5.heap.size w7 w8 := ((Below.refl _ _).alloc (by omega) _).grown gr8 (by simp; omega) (fun k hk => (row_base HR7.out hk).1)
                refine ⟨x + 1, by go_num, by go_num, by omega, hno1, ?_, ?_, HB7.out.trans hb8, ?_⟩
                · rw [K_hit hc]
                  simpa [HKL.out] using own8
                · refine row_of_block OWN7.out fun k hk => ?_
                  have := row_base OWN7.out hk
                  rw [gr8.block k (by simp; omega) (fun e => SEP7.out k e.symm hk), Below.heap_alloc _ _ _ this.2]
                · intro k hk e
                  rcases hbk8 with h | h
                  · exact SEP7.out k (h ▸ hk) e
                  · have := (row_base OWN7.out e).2
                    rw [h] at hk
                    simp at hk
                    omega
              case measure => simp [intOf]; omega
            · go_wp2_with (first
                | (at_builtin; refine wpList_append_own_at _ rfl (.tmp 67) (.tmp 69) 37 rfl w5.heap.size 9 i0 (.string ByteArray.empty) 1 16 Yba.underlying37 hi0 hz0 hz1 hz2 rfl (by decide) (.slice ca x cc) x _ rfl (hCv.out.alloc _) ⟨wr.heap.size, 0, none⟩ 1 1 [.string (S x)] rfl rfl (cell_one_new _ _ _) (by intro u hu; simp at hu; subst hu; rfl) (by unfold maxLen; omega) (by omega) (by simp; omega) ?_; intro cv' w7 own7 gr7 _ hbk7; have hb7 : Below w5.heap.size wr w7 := ((Below.refl _ _).alloc hwr5 _).grown gr7 (by simp; omega) (fun k hk => (row_base hCv.out hk).1); have HB7 : Hid (Below w5.heap.size w5 w7) := HB2.out.trans hb7; have hcell7 := (HB7.out.cell (p := ⟨w.heap.size, 0, none⟩) (by simp; omega)).trans G1; have HN7 : Hid (Nums w7 w5.heap.size ha nh hc' Z) := G2.out.later HB7.out; have look7 := lookE hsx (own_under G3.out HB7.out (by omega)); have HR7 : Hid (w7.ownsRow w5.heap.size 9 1 (.slice va' kl vc') kl ((K nh Z D S x).map Value.string)) := row_of_block HR.out (fun k hk => by rw [gr7.block k (by have := (row_base HR.out hk).2; simp; omega) (fun e => HSP.out k hk e.symm), Below.heap_alloc _ _ _ (row_base HR.out hk).2]); have OWN7 : Hid (w7.ownsRow w5.heap.size 9 1 cv' (x + 1) (nms S (x + 1))) := (by rw [← nms_succ]; exact own7); have hs7 := hb7.size; have SEP7 : Hid (∀ k, (Value.slice va' kl vc').ownBlock = some k → cv'.ownBlock ≠ some k) := sep_step HR.out HSP.out hbk7; clear hb7 own7 gr7 hbk7; obtain ⟨ca', cc', rfl⟩ := row_slice OWN7.out)
                | (go_at_call 9; refine (cat_any w5.heap.size ha nh hc' Z x _ hnh HN7.out).mono ?_; rintro e w' ⟨rfl, hw'⟩; have hw'' := hw'.symm; clear hw'; subst hw''))
              go_roundw
              case rel => exact ⟨x + 1, by go_num, by go_num, by omega, hno1, by rw [K_miss (nh := nh) (Z := Z) (D := D) (S := S) (x := x) (by omega)]; simpa [HKL.out] using HR7.out, OWN7.out, HB7.out, by simpa [HKL.out] using SEP7⟩
              case measure => simp [intOf]; omega
        · obtain rfl : x = k := by omega
          obtain rfl : i = x := hstop.uniq ⟨hx, .inl rfl, hno.out⟩
          have hwant : Hid (wr.ownsRow w5.heap.size 9 1 (.slice va' kl vc') (K nh Z D S i).length ((K nh Z D S i).map Value.string)) := by rw [HKL.out]; exact hKv.out
          have hgot' : Hid (wr.ownsRow (w2.heap.size + 1 + 2) 9 1 (.slice ga (K nh Z D S i).length gc) (K nh Z D S i).length ((K nh Z D S i).map Value.string)) := row_of_block hgot fun k hk => HB2.out.block k (row_base hgot hk).2
          have hlg : Hid (wr.ownsRow (w2.heap.size + 1 + 2) 9 1 (.slice la i lc) i (((List.range i).map S).map Value.string)) := by rw [nms_map]; exact row_of_block hlog.2.2.2.2 fun k hk => HB2.out.block k (row_base hlog.2.2.2.2 hk).2
          have hcl : Hid (wr.ownsRow w5.heap.size 9 1 (.slice ca i cc) i (((List.range i).map S).map Value.string)) := by rw [nms_map]; exact hCv.out
          have lcell : wr.cell? ⟨w2.heap.size + 1, 0, none⟩ = some (.slice la i lc) := (HB2.out.cell (p := ⟨w2.heap.size + 1, 0, none⟩) (by simp; omega)).trans hlog.1
          have hki : (K nh Z D S i).length ≤ 1024 := by have := K_le nh Z D S i; omega
          have hi1 : i ≤ 1024 := by omega
          go_wp2_with (first
            | (go_at_call 13; refine (equal_any _ _ _ _ _ _ _ hki (by exact hgot'.out) (by exact hwant.out)).mono ?_; rintro e w' ⟨rfl, q, rfl⟩)
            | (go_at_call 13; refine (equal_any _ _ _ _ _ _ _ hi1 (by exact hlg.out) (by exact hcl.out)).mono ?_; rintro e w' ⟨rfl, q', rfl⟩))
          go_ret
          exact ⟨rfl, (hbw2.trans ((HX.mono (by omega)).trans (HB2.out.mono (by omega)))).trans ⟨rfl, rfl, rfl, Nat.le_refl _, fun _ _ => rfl⟩⟩
end Go.Proofs.Ybulkymy
