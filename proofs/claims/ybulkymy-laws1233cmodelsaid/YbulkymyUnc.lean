/-
  (*Replica).unconfirmed, handed the closure.
-/
import Derived.Test.YbulkymyClos
namespace Go.Proofs.Ybulkymy
open Go.RowKit Go.Maps

def hit (nh : Nat) (Z : Nat → Int) (D : DataW Unit) (S : Nat → ByteArray) (i : Nat) : Bool := decide (nat0 nh Z i < qa (say D (S i)))
def K (nh : Nat) (Z : Nat → Int) (D : DataW Unit) (S : Nat → ByteArray) : Nat → List ByteArray
  | 0 => []
  | i + 1 => if hit nh Z D S i then K nh Z D S i ++ [S i] else K nh Z D S i
theorem K_le (nh : Nat) (Z : Nat → Int) (D : DataW Unit) (S : Nat → ByteArray) : ∀ i, (K nh Z D S i).length ≤ i
  | 0 => Nat.le_refl _
  | i + 1 => by
    have := K_le nh Z D S i
    unfold K
    split
    · simp; omega
    · omega
def Stop (Kf : Nat → List ByteArray) (n i : Nat) : Prop := i ≤ n ∧ (i = n ∨ (Kf i).length = 256) ∧ ∀ j, j < i → (Kf j).length ≠ 256
theorem Stop.uniq {Kf : Nat → List ByteArray} {n i j : Nat} (hi : Stop Kf n i) (hj : Stop Kf n j) : i = j := by
  rcases Nat.lt_trichotomy i j with h | h | h
  · rcases hi.2.1 with e | e
    · have := hj.1; omega
    · exact absurd e (hj.2.2 i h)
  · exact h
  · rcases hj.2.1 with e | e
    · have := hi.1; omega
    · exact absurd e (hi.2.2 j h)
def nms (S : Nat → ByteArray) (i : Nat) : List Value := (List.range i).map fun j => .string (S j)
theorem nms_succ (S : Nat → ByteArray) (i : Nat) : nms S i ++ [.string (S i)] = nms S (i + 1) := by
  unfold nms
  rw [List.range_succ, List.map_append]
  rfl
theorem own_under {w W : World} {R : Value → Option (DataW Unit × List MemPlace)} {B b n : Nat} {D : DataW Unit} (h : w.ownsMap Yba.prog 9 R b n D) (hb : Below B w W) (hlt : b < B) : W.ownsMap Yba.prog 9 R b n D := by
  obtain ⟨es, clock, hbk, r⟩ := h
  exact ⟨es, clock, (hb.block b hlt).trans hbk, r⟩

theorem Logd.keep {w W : World} {lb : Nat} {lv : Value} {i : Nat} {xs : List Value} (h : Logd w lb lv i xs) (hb : Below (lb + 2) w W) (hrow : ∀ k, lv.ownBlock = some k → W.heap[k]? = w.heap[k]?) : Logd W lb lv i xs :=
  ⟨(hb.cell (p := ⟨lb, 0, none⟩) (by simp)).trans h.1, (hb.frozen (p := ⟨lb, 0, none⟩) (by simp)).trans h.2.1, (hb.cell (p := ⟨lb + 1, 0, none⟩) (by simp)).trans h.2.2.1, (hb.frozen (p := ⟨lb + 1, 0, none⟩) (by simp)).trans h.2.2.2.1, row_of_block h.2.2.2.2 hrow⟩
theorem K_hit {nh : Nat} {Z : Nat → Int} {D : DataW Unit} {S : Nat → ByteArray} {x : Nat} (h : nat0 nh Z x < qa (say D (S x))) : K nh Z D S (x + 1) = K nh Z D S x ++ [S x] := by simp [K, hit, h]
theorem K_miss {nh : Nat} {Z : Nat → Int} {D : DataW Unit} {S : Nat → ByteArray} {x : Nat} (h : ¬ nat0 nh Z x < qa (say D (S x))) : K nh Z D S (x + 1) = K nh Z D S x := by simp [K, hit, h]
theorem fld42 (a c : Int) (o : Bool) (W : World) : (Instr.field 42 (.agg #[.int .u64 a, .int .u64 c, .bool o]) 0).run Yba.prog W = .ok (.int .u64 a) W := by kernel_rfl
set_option maxHeartbeats 2000000 in
set_option maxRecDepth 100000 in
theorem unc_any (lb hb rb mb : Nat) (ov : Value) (n : Nat) (S : Nat → ByteArray) (ha : Option Addr) (nh ch : Nat) (Z : Nat → Int) (D : DataW Unit) (w : World) (hn : n ≤ 1024) (hnh : nh ≤ 1024) (hlb : lb + 2 ≤ w.heap.size) (hhb : hb < lb) (hrb : rb < lb) (hmb : mb < lb)
    (hh : w.cell? ⟨hb, 0, none⟩ = some (.slice ha nh ch)) (hZ : Nums w lb ha nh ch Z) (hr : w.cell? ⟨rb, 14, none⟩ = some (.map (some mb))) (ho : w.cell? ⟨rb, 15, none⟩ = some ov) (hS : Strs w lb ov n S) (hsz : ∀ i, i < n → (S i).size ≤ maxLen)
    (hm : w.ownsMap Yba.prog 9 rE mb n D) (hL : Logd w lb (.slice none 0 0) 0 []) :
    Calls Yba.prog 12 #[.pointer (some ⟨rb, 0, none⟩), .func (.func 11) #[] #[.pointer (some ⟨lb, 0, none⟩), .pointer (some ⟨hb, 0, none⟩), .pointer (some ⟨lb + 1, 0, none⟩)]] w fun e w' =>
      ∃ v i lv, e = .returned v ∧ Stop (K nh Z D S) n i ∧ w'.ownsRow (lb + 2) 9 1 v (K nh Z D S i).length ((K nh Z D S i).map Value.string) ∧ Logd w' lb lv i (nms S i) ∧ Below lb w w' := by
  obtain ⟨i0, hi0, hz0, hz1, hz2⟩ := info_parts Yba.info9
  have HS : Hid (Strs w lb ov n S) := hS
  have HZ : Hid (Nums w lb ha nh ch Z) := hZ
  have HM : Hid (w.ownsMap Yba.prog 9 rE mb n D) := hm
  have HN : Hid (∀ i, i < n → (S i).size ≤ maxLen) := hsz
  clear hS hZ hm hsz
  obtain ⟨oa, oc, rfl, hoc, _⟩ := HS.out
  go_enter Yba.func12, Yba.ntmps12
  go_wp2
  go_loopw [5, 13] (fun v i wr => ∃ (x : Nat) (lv : Value), i = .int .i64 x ∧ x ≤ n ∧ Hid (∀ j, j < x → (K nh Z D S j).length ≠ 256) ∧ wr.ownsRow (lb + 2) 9 1 v (K nh Z D S x).length ((K nh Z D S x).map Value.string) ∧ Logd wr lb lv x (nms S x) ∧ Below lb w wr ∧ Hid (∀ k, v.ownBlock = some k → lv.ownBlock ≠ some k)) (fun _ i _ => n - (intOf i).toNat)
  case atStart => exact ⟨0, .slice none 0 0, rfl, Nat.zero_le _, fun j hj => by omega, World.ownsRow_nil _ _ _ _, hL, Below.refl _ _, fun k hk => by simp [Value.ownBlock] at hk⟩
  case round =>
    obtain ⟨x, lv, rfl, hx, hno, hown, hLg, hbel, hsep⟩ := hrel
    obtain ⟨va, vc, rfl⟩ := row_slice hown
    have hKl := K_le nh Z D S x
    have hKv : Hid (wr.ownsRow (lb + 2) 9 1 (.slice va (K nh Z D S x).length vc) (K nh Z D S x).length ((K nh Z D S x).map Value.string)) := hown
    obtain ⟨kl, hkl⟩ : ∃ kl, kl = (K nh Z D S x).length := ⟨_, rfl⟩
    have HKL : Hid (kl = (K nh Z D S x).length) := hkl
    have HL : Hid (Logd wr lb lv x (nms S x)) := hLg
    have HB : Hid (Below lb w wr) := hbel
    rw [← hkl] at hKl ⊢
    clear hown hLg hbel hkl hL
    by_cases hlt : x < n
    · obtain ⟨oa', oc', heq, _, hstr⟩ := HS.out.later HB.out
      obtain ⟨rfl, rfl⟩ : oa = oa' ∧ oc = oc' := by simpa using heq
      obtain ⟨ob, oo, rfl, _, hcells⟩ := hstr (by omega)
      have c0 := hcells x hlt
      have r14 := (HB.out.cell (p := ⟨rb, 14, none⟩) hrb).trans hr
      clear hcells hstr heq
      by_cases h256 : kl = 256
      · go_wp2
        go_ret
        exact ⟨_, x, lv, rfl, ⟨hx, .inr (by rw [← HKL.out]; exact h256), hno.out⟩, by rw [HKL.out]; exact hKv.out, HL.out, HB.out⟩
      · have h256' : ¬ (kl : Int) = 256 := by omega
        have hsx := HN.out x hlt
        have hbd : Below lb w wr.drew := HB.out.drew
        have look0 := lookE hsx (own_under HM.out hbd hmb)
        have r14d := (hbd.cell (p := ⟨rb, 14, none⟩) hrb).trans hr
        have hclo := clos_any lb hb lv x (nms S x) (S x) ha nh ch Z wr.drew (by omega) hnh (by have := hbd.size; omega) hhb ((hbd.cell (p := ⟨hb, 0, none⟩) hhb).trans hh) (HZ.out.later hbd) (by exact HL.out)
        have hfld := fld42
        go_wp2_with fail
        go_region_with (go_at_call 11; (refine hclo.mono ?_; rintro e w1 ⟨rfl, lv', hlg1, hb1, hkp1, hbk1⟩; have r14' := (hb1.cell (p := ⟨rb, 14, none⟩) hrb).trans r14d; have look1 := lookE hsx (own_under (own_under HM.out hbd hmb) hb1 hmb)))
        all_goals
          have hb1' : Below lb w w1 := hbd.trans hb1
          have hs1 := hb1'.size
          have hw1 : wr.heap.size ≤ w1.heap.size := hb1.size
          have hrow : wr.ownsRow (lb + 2) 9 1 (.slice va kl vc) kl ((K nh Z D S x).map Value.string) := by rw [HKL.out]; exact hKv.out
          have hsep0 : ∀ k, (Value.slice va kl vc).ownBlock = some k → lv.ownBlock ≠ some k := by rw [HKL.out]; exact hsep.out
          have hrow1 : Hid (w1.ownsRow (lb + 2) 9 1 (.slice va kl vc) kl ((K nh Z D S x).map Value.string)) := row_of_block hrow fun k hk => hkp1 k (row_base hrow hk).1 (row_base hrow hk).2 (fun e => hsep0 k hk e.symm)
          have hsep1 : Hid (∀ k, (Value.slice va kl vc).ownBlock = some k → lv'.ownBlock ≠ some k) := by
            intro k hk e
            rcases hbk1 with h | ⟨g, h1, h2⟩
            · exact hsep0 k hk (h ▸ e)
            · have e2 : g = k := by rw [h2] at e; exact Option.some.inj e
              have := (row_base hrow hk).2
              have h3 : wr.heap.size ≤ g := h1
              omega
          have HL1 : Hid (Logd w1 lb lv' (x + 1) (nms S (x + 1))) := by rw [← nms_succ]; exact hlg1
          have HB1 : Hid (Below lb w w1) := hb1'
          have hno1 : Hid (∀ j, j < x + 1 → (K nh Z D S j).length ≠ 256) := by
            intro j hj
            rcases Nat.lt_succ_iff_lt_or_eq.1 hj with h | h
            · exact hno.out j h
            · subst h; rw [← HKL.out]; exact h256
          clear hrow hsep0 hkp1 hbk1 hlg1 hb1 hb1' hclo
          by_cases hc : nat0 nh Z x < qa (say D (S x))
          · go_wp2_with (at_builtin; refine wpList_append_own_at _ rfl (.tmp 31) (.tmp 33) 37 rfl (lb + 2) 9 i0 (.string ByteArray.empty) 1 16 Yba.underlying37 hi0 hz0 hz1 hz2 rfl (by decide) _ kl _ rfl (hrow1.out.alloc _) ⟨w1.heap.size, 0, none⟩ 1 1 [.string (S x)] rfl rfl (cell_one_new _ _ _) (by intro u hu; simp at hu; subst hu; rfl) (by unfold maxLen; omega) (by omega) (by simp; omega) ?_; intro v' w2 own2 gr2 _ hbk2)
            go_roundw
            case rel =>
              have hb2 : Below (lb + 2) w1 w2 := ((Below.refl (lb + 2) w1).alloc (by omega) _).grown gr2 (by simp; omega) (fun k hk => (row_base hrow1.out hk).1)
              refine ⟨x + 1, lv', by go_num, by omega, hno1, ?_, HL1.out.keep hb2 ?_, HB1.out.trans (hb2.mono (by omega)), ?_⟩
              · rw [K_hit hc]
                simpa [HKL.out] using own2
              · intro k hk
                have := row_base HL1.out.2.2.2.2 hk
                rw [gr2.block k (by simp; omega) (fun e => hsep1.out k e.symm hk), Below.heap_alloc _ _ _ this.2]
              · intro k hk e
                rcases hbk2 with h | h
                · exact hsep1.out k (h ▸ hk) e
                · have := (row_base HL1.out.2.2.2.2 e).2
                  rw [h] at hk
                  simp at hk
                  omega
            case measure => simp [intOf]; omega
          · go_wp2
            go_roundw
            case rel => exact ⟨x + 1, lv', by go_num, by omega, hno1, by rw [K_miss hc]; simpa [HKL.out] using hrow1.out, HL1.out, HB1.out, by simpa [HKL.out] using hsep1⟩
            case measure => simp [intOf]; omega
    · obtain rfl : x = n := by omega
      go_wp2
      go_ret
      exact ⟨_, x, lv, rfl, ⟨hx, .inl rfl, hno.out⟩, by rw [HKL.out]; exact hKv.out, HL.out, HB.out⟩
end Go.Proofs.Ybulkymy
