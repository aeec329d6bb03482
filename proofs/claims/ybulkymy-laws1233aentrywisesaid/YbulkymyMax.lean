/-
  vv.Max: the entrywise maximum, whatever the order in which the maps are ranged over.
-/
import Derived.Test.YbulkymyBuild
import Derived.Maps.Ext
namespace Go.Proofs.Ybulkymy
open Go.RowKit Go.Maps

def mx (F : Nat → Nat → Option Int) : Nat → Nat → Int
  | 0, _ => 0
  | k + 1, j => max (mx F k j) ((F k j).getD 0)
def pf (h : Nat → Int) (j : Nat) : Option Int := if 0 < h j then some (h j) else none
def mid (F : Nat → Nat → Option Int) (k : Nat) (left : Lit → Bool) (j : Nat) : Int := if left (key j) then mx F k j else mx F (k + 1) j

theorem mx_nonneg (F : Nat → Nat → Option Int) : ∀ k j, 0 ≤ mx F k j
  | 0, _ => Int.le_refl _
  | k + 1, j => by have := mx_nonneg F k j; unfold mx; omega
theorem dat_congr {f f' : Nat → Option Int} (h : ∀ j, j < 4 → f j = f' j) : dat f = dat f' := by
  unfold dat
  rw [h 0 (by decide), h 1 (by decide), h 2 (by decide), h 3 (by decide)]
theorem mid_start (F : Nat → Nat → Option Int) (k : Nat) : dat (pf (mid F k (Maps.has (dat (F k))))) = dat (pf (mx F k)) := by
  refine dat_congr fun j hj => ?_
  have e : mid F k (Maps.has (dat (F k))) j = mx F k j := by
    unfold mid
    rw [has_dat _ _ hj]
    cases hf : F k j with
    | some c => rfl
    | none => have := mx_nonneg F k j; simp [mx, hf]; omega
  unfold pf
  rw [e]
theorem mid_end (F : Nat → Nat → Option Int) (k : Nat) {left : Lit → Bool} (h : ∀ kl, left kl = false) : dat (pf (mid F k left)) = dat (pf (mx F (k + 1))) := by
  refine dat_congr fun j hj => ?_
  unfold pf mid
  simp [h]
theorem same_key (i j : Nat) (hi : i < 4) (hj : j < 4) : (key i).sameKey (key j) = decide (i = j) := by
  by_cases h : i = j
  · subst h
    match i, hi with
    | 0, _ | 1, _ | 2, _ | 3, _ => rfl
  · rw [sameKey_ne (fun e => h (key_inj hi hj e))]
    simp [h]
theorem mid_hit (F : Nat → Nat → Option Int) (k : Nat) {left : Lit → Bool} {j : Nat} {c : Int} (hj : j < 4) (hF : F k j = some c) (hc : mx F k j < c) :
    (dat (pf (mid F k left))).put (key j) (.lit (.int .u64 c)) = dat (pf (mid F k (fun z => left z && !z.sameKey (key j)))) := by
  rw [put_dat _ _ hj]
  refine dat_congr fun i hi => ?_
  have h0 := mx_nonneg F k j
  unfold upd pf mid
  simp only [same_key i j hi hj]
  by_cases e : i = j
  · subst e
    have : mx F (k + 1) i = c := by simp [mx, hF]; omega
    simp [this]
    omega
  · simp [e]
theorem mid_miss (F : Nat → Nat → Option Int) (k : Nat) {left : Lit → Bool} {j : Nat} {c : Int} (hj : j < 4) (hF : F k j = some c) (hc : ¬ mx F k j < c) :
    dat (pf (mid F k left)) = dat (pf (mid F k (fun z => left z && !z.sameKey (key j)))) := by
  refine dat_congr fun i hi => ?_
  unfold pf mid
  simp only [same_key i j hi hj]
  by_cases e : i = j
  · subst e
    have : mx F (k + 1) i = mx F k i := by simp [mx, hF]; omega
    simp [this]
  · simp [e]
theorem own_below {w W : World} {R : Value → Option (DataW Unit × List MemPlace)} {b n : Nat} {D : DataW Unit} (h : w.ownsMap Yba.prog 9 R b n D) (hb : Below w.heap.size w W) : W.ownsMap Yba.prog 9 R b n D := by
  have hlt := h.lt
  obtain ⟨es, clock, hbk, r⟩ := h
  exact ⟨es, clock, (hb.block b hlt).trans hbk, r⟩
theorem invK (key0 : Value) (kl : Lit) (h : keyOf Yba.prog 9 key0 = some kl) : ∃ x : ByteArray, key0 = .string x := by
  cases key0 <;> simp [keyOf, Yba.underlying9, mapKey] at h
  exact ⟨_, rfl⟩
theorem keyOf_eq {x : ByteArray} {j : Nat} (h : keyOf Yba.prog 9 (.string x) = some (key j)) : x = nmB j := by
  simp [keyOf, Yba.underlying9, mapKey, key] at h
  obtain ⟨_, h⟩ := h
  cases x with
  | mk d =>
    unfold nmB
    congr 1
    rw [← h]
theorem invV (v : Value) (y : DataW Unit × List MemPlace) (h : plainElem Yba.prog 30 v = some y) : ∃ c, v = .int .u64 c := by
  obtain ⟨c, rfl, _⟩ := plainElem_int_inv Yba.underlying30 h
  exact ⟨c, rfl⟩

/-- THE STEP OF A RANGE OVER SUCH A MAP. -/
theorem wpList_next_dat (w : World) {ops : Array Oper} {rest : List Oper} {o : Oper} {a : Act} {Q : Exit → Act → World → Prop} (hg : o.guard = none) (it : Operand) (hop : o.op = Op.next it false)
    (b r n : Nat) (f : Nat → Option Int) (left : Lit → Bool) (cnt : Nat) (hit : a.eval it = .pointer (some ⟨r, 0, none⟩)) (h : w.ranges Yba.prog 9 (plainElem Yba.prog 30) b r n (dat f) left cnt)
    (hDone : cnt = 0 → (∀ kl, left kl = false) → wpList Yba.prog ops Q rest (a.put o.dst (.tuple #[.bool false])) w)
    (hMore : ∀ (j : Nat) (c : Int) (w' : World) (cnt' : Nat), j < 4 → f j = some c → (Lit.int .u64 c).wf = true → left (key j) = true → w'.ranges Yba.prog 9 (plainElem Yba.prog 30) b r n (dat f) (fun z => left z && !z.sameKey (key j)) cnt' → cnt' < cnt →
      w.grownBy w' (some r) → w'.heap.size = w.heap.size → (Instr.entry (.pointer (some ⟨r, 0, none⟩))).run Yba.prog w' = .ok (.tuple #[.string (nmB j), .int .u64 c]) w' → wpList Yba.prog ops Q rest (a.put o.dst (.tuple #[.bool true, .string (nmB j), .int .u64 c])) w') :
    wpList Yba.prog ops Q (o :: rest) a w := by
  refine wpList_plain hg fun K' hK' => ?_
  unfold Oper.wp
  rcases h.next law9 o.type with ⟨h0, hl, hrun⟩ | ⟨key0, v, kl, y, w', cnt', hkey, hlk, hv, hat, hrun, hrg, hlt, hgr, hsz, hen⟩
  · simp [execOp, hop, hit, hrun, Result.andThen]
    exact hK' _ _ (hDone h0 hl)
  · obtain ⟨j, hj, rfl, hsome⟩ := key_dat f kl (Maps.has_true_of_atKey hat)
    obtain ⟨c0, hc0⟩ := Option.isSome_iff_exists.1 hsome
    obtain ⟨x, rfl⟩ := invK key0 _ hkey
    obtain rfl := keyOf_eq hkey
    obtain ⟨c, rfl, rfl, hwc⟩ := plainElem_int_inv Yba.underlying30 hv
    have e := hat (.lit (.bool false))
    rw [at_dat f j hj, hc0] at e
    simp at e
    subst e
    simp [execOp, hop, hit, hrun, Result.andThen]
    exact hK' _ _ (hMore j c0 w' cnt' hj hc0 hwc hlk hrg hlt hgr hsz hen)

/-- 'm[name]' OF SUCH A MAP. -/
theorem wpList_lookup_dat (w : World) {ops : Array Oper} {rest : List Oper} {o : Oper} {a : Act} {Q : Exit → Act → World → Prop} (hg : o.guard = none) (m x : Operand) (hop : o.op = Op.lookup 26 m x false)
    (b n : Nat) (f : Nat → Option Int) (j : Nat) (hj : j < 4) (hm : a.eval m = .map (some b)) (hown : w.ownsMap Yba.prog 9 (plainElem Yba.prog 30) b n (dat f)) (hx : a.eval x = .string (nmB j))
    (hK : wpList Yba.prog ops Q rest (a.put o.dst (.int .u64 ((f j).getD 0))) w) : wpList Yba.prog ops Q (o :: rest) a w := by
  refine wpList_lookup_own_int w hg m x 26 hop 9 30 .u64 law9 Yba.underlying26 Yba.underlying30 (zero30 _) b n _ hm hown _ _ hx (keyOf_nm j) ?_
  intro c hat _
  rw [at_dat f j hj] at hat
  have : c = (f j).getD 0 := by
    cases hf : f j with
    | none => rw [hf] at hat; simp at hat; simp [← hat]
    | some d => rw [hf] at hat; simp at hat; simp [← hat]
  rw [this]
  exact hK

set_option maxHeartbeats 1000000 in
theorem max_any (g n c : Nat) (B : Nat → Nat) (F : Nat → Nat → Option Int) (w : World) (hn : n ≤ 1024) (hnc : n ≤ c)
    (hc : ∀ i, i < n → w.cell? ⟨g, 0 + i, none⟩ = some (.map (some (B i)))) (ho : ∀ i, i < n → w.ownsMap Yba.prog 9 (plainElem Yba.prog 30) (B i) 4 (dat (F i))) :
    Calls Yba.prog 7 #[.slice (some ⟨g, 0, none⟩) n c] w fun e w' => e = .returned (.map (some w.heap.size)) ∧ w'.ownsMap Yba.prog 9 (plainElem Yba.prog 30) w.heap.size 4 (dat (pf (mx F n))) ∧ Below w.heap.size w w' := by
  have hmm := @run_makeMap Yba.prog
  have HC : Hid (∀ i, i < n → w.cell? ⟨g, 0 + i, none⟩ = some (.map (some (B i)))) := hc
  have HO : Hid (∀ i, i < n → w.ownsMap Yba.prog 9 (plainElem Yba.prog 30) (B i) 4 (dat (F i))) := ho
  clear hc ho
  go_enter Yba.func7, Yba.ntmps7
  go_wp2
  go_loopw [11] (fun i wr => ∃ k : Nat, i = .int .i64 k ∧ k ≤ n ∧ wr.ownsMap Yba.prog 9 (plainElem Yba.prog 30) w.heap.size 4 (dat (pf (mx F k))) ∧ Below w.heap.size w wr) (fun i _ => n - (intOf i).toNat)
  case atStart => exact ⟨0, rfl, Nat.zero_le _, own4 (World.ownsMap_made _ _ _ _), (Below.refl _ _).alloc (Nat.le_refl _) _⟩
  case round =>
    obtain ⟨k, rfl, hk, hown, hbel⟩ := hrel
    by_cases hlt : k < n
    · have d0 : wr.cell? ⟨g, k, none⟩ = some (.map (some (B k))) := by have := cell_later hbel (HC.out k hlt); rwa [Nat.zero_add] at this
      have ownK := own_below (HO.out k hlt) hbel
      have hBk : B k < w.heap.size := (HO.out k hlt).lt
      have hsz := hbel.size
      obtain ⟨wo, hwo⟩ : ∃ wo : World, wo = wr := ⟨_, rfl⟩
      subst hwo
      go_wp2_with (at_range; refine wpList_range_own _ rfl _ 26 rfl 9 30 law9 Yba.underlying26 _ (B k) 4 _ rfl ownK ?_; intro w0 hrg0 hg0 hs0)
      go_frame
      have hown0 := hown.kept hg0 (by simp)
      have hmlt : w.heap.size < wo.heap.size := hown.lt
      have hbel0 := hbel.grown hg0 hsz (by simp)
      clear hg0 hown ownK hbel d0
      go_loopw [17] (fun _ wr => ∃ left cnt, wr.ranges Yba.prog 9 (plainElem Yba.prog 30) (B k) wo.heap.size 4 (dat (F k)) left cnt ∧ wr.ownsMap Yba.prog 9 (plainElem Yba.prog 30) w.heap.size 4 (dat (pf (mid F k left))) ∧ Below w.heap.size w wr) (fun _ wr => wr.rangeLeft (B k) wo.heap.size)
      case atStart => exact ⟨_, _, hrg0, by rw [mid_start]; exact hown0, hbel0⟩
      case round =>
        obtain ⟨left, cnt, hrg, hown, hbel⟩ := hrel
        have hsz' := hbel.size
        go_wp2_with (at_next; refine wpList_next_dat _ rfl _ rfl (B k) wo.heap.size 4 (F k) left cnt rfl hrg ?_ ?_)
        · intro hc0 hl0
          rw [mid_end F k hl0] at hown
          go_wp2
          go_roundw
          case rel => exact ⟨k + 1, by go_num, by omega, hown, hbel⟩
          case measure => simp [intOf]; omega
        · intro j c w1 cnt1 hj hFj hwc hlj hrg1 hlt1 hg1 hs1 hen
          have hown1 := hown.kept hg1 (by simp; omega)
          have hget : (pf (mid F k left) j).getD 0 = mx F k j := by
            have h0 := mx_nonneg F k j
            have hm : mid F k left j = mx F k j := by unfold mid; rw [if_pos hlj]
            unfold pf
            rw [hm]
            split <;> simp
            omega
          have HG : Hid ((pf (mid F k left) j).getD 0 = mx F k j) := hget
          have HF : Hid (F k j = some c) := hFj
          clear hget hown hFj
          have hbel1 := hbel.grown hg1 hsz' (by simp; omega)
          by_cases hc : mx F k j < c
          · go_wp2_with (first | (at_lookup; refine wpList_lookup_dat _ rfl _ _ rfl w.heap.size 4 (pf (mid F k left)) j hj rfl hown1 rfl ?_; rw [HG.out]) | (at_mapUpdate; refine wpList_mapUpdate_own _ rfl _ _ _ 26 rfl 9 30 law9 Yba.underlying26 _ w.heap.size 4 _ rfl hown1 (by unfold maxLen; omega) _ _ _ rfl rfl (keyOf_nm j) _ [] (plainElem_int Yba.underlying30 hwc) ?_; intro w2 hown2 hg2; go_frame))
            have hrg2 := hrg1.kept hg2 (by simp; omega) (by simp; omega)
            rw [mid_hit F k hj HF.out hc] at hown2
            go_roundw
            case rel => exact ⟨_, cnt1, hrg2, own4 hown2, hbel1.grown hg2 (by omega) (by simp)⟩
            case measure => rw [hrg2.left_eq, hrg.left_eq]; exact hlt1
          · go_wp2_with (first | (at_lookup; refine wpList_lookup_dat _ rfl _ _ rfl w.heap.size 4 (pf (mid F k left)) j hj rfl hown1 rfl ?_; rw [HG.out]))
            rw [mid_miss F k hj HF.out hc] at hown1
            go_roundw
            case rel => exact ⟨_, cnt1, hrg1, hown1, hbel1⟩
            case measure => rw [hrg1.left_eq, hrg.left_eq]; exact hlt1
    · go_wp2
      obtain rfl : k = n := by omega
      go_ret
      exact ⟨rfl, hown, hbel⟩
end Go.Proofs.Ybulkymy
