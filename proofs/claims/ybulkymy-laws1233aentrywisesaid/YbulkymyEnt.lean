/-
  The walk of LawS1233AEntrywise.
-/
import Derived.Test.YbulkymyMax
import Derived.Deep.DeepCutAuto
import Derived.Maps.AppendAt
namespace Go.Proofs.Ybulkymy
open Go.RowKit Go.Maps

theorem bool_inv {P : Program} {e : TypeId} (he : P.underlying e = some .bool) {v : Value} {x : Bool} {ps : List MemPlace} (h : plainElem (H := Unit) P e v = some (.lit (.bool x), ps)) : v = .bool x := by
  unfold plainElem at h
  rw [he] at h
  split at h
  · simp at h; rw [h.1]
  · simp at *
  · simp at *
  · simp at h
theorem lookB {w : World} {b n : Nat} {g : Nat → Bool} {j : Nat} (hj : j < 4) (h : w.ownsMap Yba.prog 9 (plainElem Yba.prog 4) b n (datB g)) :
    (Instr.lookup 29 (.map (some b)) (.string (nmB j)) false).run Yba.prog w = .ok (.bool (g j)) w := by
  obtain ⟨v, ps, hrun, hv⟩ := h.lookup law9 Yba.underlying29 (zero4 w) (plainElem_bool Yba.underlying4 false) (keyOf_nm j)
  rw [at_datB g j hj] at hv
  have : v = .bool (g j) := by
    exact bool_inv Yba.underlying4 hv
  rw [this] at hrun
  exact hrun
theorem lookN {w : World} {b n : Nat} {f : Nat → Option Int} {j : Nat} (hj : j < 4) (h : w.ownsMap Yba.prog 9 (plainElem Yba.prog 30) b n (dat f)) :
    (Instr.lookup 26 (.map (some b)) (.string (nmB j)) false).run Yba.prog w = .ok (.int .u64 ((f j).getD 0)) w := by
  obtain ⟨c, hrun, hat, _⟩ := h.lookup_int law9 Yba.underlying26 Yba.underlying30 (zero30 w) (keyOf_nm j)
  rw [at_dat f j hj] at hat
  have : c = (f j).getD 0 := by
    cases hf : f j with
    | none => rw [hf] at hat; simp at hat; simp [← hat]
    | some d => rw [hf] at hat; simp at hat; simp [← hat]
  rw [← this]
  exact hrun
theorem lookOk {w : World} {b n : Nat} {f : Nat → Option Int} {j : Nat} (hj : j < 4) (h : w.ownsMap Yba.prog 9 (plainElem Yba.prog 30) b n (dat f)) :
    (Instr.lookup 26 (.map (some b)) (.string (nmB j)) true).run Yba.prog w = .ok (.tuple #[.int .u64 ((f j).getD 0), .bool (f j).isSome]) w := by
  obtain ⟨v, ps, hrun, hv⟩ := h.look_ok law9 Yba.underlying26 (zero30 w) (plainElem_int Yba.underlying30 (by decide)) (keyOf_nm j)
  rw [at_dat f j hj] at hv
  rw [has_dat f j hj] at hrun
  obtain ⟨c, rfl, hc, _⟩ := plainElem_int_inv Yba.underlying30 hv
  have : c = (f j).getD 0 := by
    cases hf : f j with
    | none => rw [hf] at hc; simp at hc; simp [← hc]
    | some d => rw [hf] at hc; simp at hc; simp [← hc]
  rw [this] at hrun
  exact hrun

theorem Yba.info26 : (Yba.prog.info? 26).map (fun i => (i.zero, i.size, i.bytes)) = some (some (.map none), 1, 8) := by kernel_rfl

def FF (N C : Nat → Nat → Int) (L : Nat → Nat) (i : Nat) : Nat → Option Int := bld (N i) (C i) (L i)

/-- the argument as it lies -/
def Arg (w : World) (b o n : Nat) (A : Nat → Option Addr) (L Cp : Nat → Nat) (N C : Nat → Nat → Int) : Prop :=
  ∀ i, i < n → w.cell? ⟨b, o + i, none⟩ = some (.slice (A i) (L i) (Cp i)) ∧ Ents w (A i) (L i) (Cp i) (N i) (C i) ∧ L i ≤ 140737488355328

/-- the vectors, behind the second loop -/
def Ins (W : World) (G n k : Nat) (Bf : Nat → Nat) (F : Nat → Nat → Option Int) : Prop :=
  W.ownsRow G 26 1 (.slice (some ⟨G, 0, none⟩) k n) k ((List.range k).map fun i => .map (some (Bf i))) ∧ ∀ i, i < k → G < Bf i ∧ W.ownsMap Yba.prog 9 (plainElem Yba.prog 30) (Bf i) 4 (dat (F i))

theorem wpList_lookup_B (w : World) {ops : Array Oper} {rest : List Oper} {o : Oper} {a : Act} {Q : Exit → Act → World → Prop} (hg : o.guard = none) (m x : Operand) (hop : o.op = Op.lookup 29 m x false)
    (b n : Nat) (g : Nat → Bool) (j : Nat) (hj : j < 4) (hm : a.eval m = .map (some b)) (hown : w.ownsMap Yba.prog 9 (plainElem Yba.prog 4) b n (datB g)) (hx : a.eval x = .string (nmB j))
    (hK : wpList Yba.prog ops Q rest (a.put o.dst (.bool (g j))) w) : wpList Yba.prog ops Q (o :: rest) a w := by
  refine wpList_plain hg fun K' hK' => ?_
  unfold Oper.wp
  simp [execOp, hop, hm, hx, lookB hj hown, Result.andThen]
  exact hK' _ _ hK
theorem wpList_lookup_ok (w : World) {ops : Array Oper} {rest : List Oper} {o : Oper} {a : Act} {Q : Exit → Act → World → Prop} (hg : o.guard = none) (m x : Operand) (hop : o.op = Op.lookup 26 m x true)
    (b n : Nat) (f : Nat → Option Int) (j : Nat) (hj : j < 4) (hm : a.eval m = .map (some b)) (hown : w.ownsMap Yba.prog 9 (plainElem Yba.prog 30) b n (dat f)) (hx : a.eval x = .string (nmB j))
    (hK : wpList Yba.prog ops Q rest (a.put o.dst (.tuple #[.int .u64 ((f j).getD 0), .bool (f j).isSome])) w) : wpList Yba.prog ops Q (o :: rest) a w := by
  refine wpList_plain hg fun K' hK' => ?_
  unfold Oper.wp
  simp [execOp, hop, hm, hx, lookOk hj hown, Result.andThen]
  exact hK' _ _ hK

def cnt (g : Nat → Bool) (h : Nat → Int) : Nat := b2n (g 0 && decide (0 < h 0)) + b2n (g 1 && decide (0 < h 1)) + b2n (g 2 && decide (0 < h 2)) + b2n (g 3 && decide (0 < h 3))
theorem cnt_le (g : Nat → Bool) (h : Nat → Int) : cnt g h ≤ 4 := by
  unfold cnt
  cases (g 0 && decide (0 < h 0)) <;> cases (g 1 && decide (0 < h 1)) <;> cases (g 2 && decide (0 < h 2)) <;> cases (g 3 && decide (0 < h 3)) <;> decide
theorem cnt_hit (g : Nat → Bool) (h : Nat → Int) (j : Nat) (hj : j < 4) (hg : g j = false) (hp : 0 < h j) : cnt (updB g j) h = cnt g h + 1 := by
  unfold cnt updB
  match j, hj with
  | 0, _ => simp [hg, hp, b2n]; omega
  | 1, _ => simp [hg, hp, b2n]; omega
  | 2, _ => simp [hg, hp, b2n]; omega
  | 3, _ => simp [hg, hp, b2n]
theorem cnt_miss (g : Nat → Bool) (h : Nat → Int) (j : Nat) (hp : ¬ 0 < h j) : cnt (updB g j) h = cnt g h := by
  have key : ∀ i, (updB g j i && decide (0 < h i)) = (g i && decide (0 < h i)) := by
    intro i
    unfold updB
    by_cases e : i = j
    · subst e; simp [hp]
    · simp [e]
  unfold cnt
  rw [key 0, key 1, key 2, key 3]
theorem cnt_all (g : Nat → Bool) (h : Nat → Int) (H : ∀ j, j < 4 → 0 < h j → g j = true) : Maps.size (dat (pf h)) = cnt g h := by
  have key : ∀ i, i < 4 → (pf h i).isSome = (g i && decide (0 < h i)) := by
    intro i hi
    unfold pf
    by_cases e : 0 < h i
    · simp [e, H i hi e]
    · simp [e]
  rw [size_dat, key 0 (by decide), key 1 (by decide), key 2 (by decide), key 3 (by decide)]
  rfl
theorem bld_some (N C : Nat → Int) (j : Nat) : ∀ k c, bld N C k j = some c → ∃ e, e < k ∧ (N e % 4).toNat = j
  | 0, c, h => by simp [bld] at h
  | k + 1, c, h => by
    unfold bld upd at h
    split at h
    · exact ⟨k, by omega, by omega⟩
    · obtain ⟨e, h1, h2⟩ := bld_some N C j k c h
      exact ⟨e, by omega, h2⟩
theorem mx_some (F : Nat → Nat → Option Int) (j : Nat) : ∀ k, 0 < mx F k j → ∃ i c, i < k ∧ F i j = some c
  | 0, h => by simp [mx] at h
  | k + 1, h => by
    cases hf : F k j with
    | some c => exact ⟨k, c, by omega, hf⟩
    | none =>
      have : 0 < mx F k j := by simp [mx, hf] at h; omega
      obtain ⟨i, c, h1, h2⟩ := mx_some F j k this
      exact ⟨i, c, by omega, h2⟩
theorem all_seen {N C : Nat → Nat → Int} {L : Nat → Nat} {n : Nat} {g : Nat → Bool} (h : ∀ i, i < n → ∀ e, e < L i → g (N i e % 4).toNat = true) : ∀ j, j < 4 → 0 < mx (FF N C L) n j → g j = true := by
  intro j _ hp
  obtain ⟨i, c, hi, hc⟩ := mx_some _ _ _ hp
  obtain ⟨e, he, hj⟩ := bld_some _ _ _ _ _ hc
  rw [← hj]
  exact h i hi e he
theorem updB_mono {g : Nat → Bool} {j i : Nat} (h : g i = true) : updB g j i = true := by unfold updB; split <;> simp [h]
theorem updB_self (g : Nat → Bool) (j : Nat) : updB g j j = true := by simp [updB]

theorem row_below {w W : World} {base : Nat} {e : TypeId} {size : Nat} {v : Value} {n : Nat} {xs : List Value} (h : w.ownsRow base e size v n xs) (hb : Below w.heap.size w W) : W.ownsRow base e size v n xs := by
  refine ⟨h.1, ?_⟩
  rcases h.2 with hn | ⟨g, cap, cur, rfl, hbs, hgg, rest⟩
  · exact .inl hn
  · refine .inr ⟨g, cap, cur, rfl, hbs, ?_, rest⟩
    rw [hb.block g (Array.getElem?_eq_some_iff.1 hgg).1]
    exact hgg
theorem row_lt {w : World} {base : Nat} {e : TypeId} {size g k n : Nat} {xs : List Value} (h : w.ownsRow base e size (.slice (some ⟨g, 0, none⟩) k n) k xs) : g < w.heap.size := by
  rcases h.2 with ⟨h', _⟩ | ⟨g', cap', cur, h', _, hg, _⟩
  · simp at h'
  · simp only [Value.slice.injEq, Option.some.injEq, Addr.mk.injEq, and_true, true_and] at h'
    obtain ⟨rfl, rfl⟩ := h'
    exact (Array.getElem?_eq_some_iff.1 hg).1
def bset (Bf : Nat → Nat) (m B : Nat) (i : Nat) : Nat := if i = m then B else Bf i
theorem Ins.step {wr w2 wx w3 : World} {G n m : Nat} {Bf : Nat → Nat} {F : Nat → Nat → Option Int} (h : Ins wr G n m Bf F) (bel2 : Below wr.heap.size wr w2) (own2 : w2.ownsMap Yba.prog 9 (plainElem Yba.prog 30) wr.heap.size 4 (dat (F m)))
    (belx : Below w2.heap.size w2 wx) (own3 : w3.ownsRow G 26 1 (.slice (some ⟨G, 0, none⟩) (m + 1) n) (m + 1) (((List.range m).map fun i => Value.map (some (Bf i))) ++ [Value.map (some wr.heap.size)])) (gr3 : wx.grownBy w3 (some G)) :
    Ins w3 G n (m + 1) (bset Bf m wr.heap.size) F := by
  have hG := row_lt h.1
  refine ⟨?_, fun i hi => ?_⟩
  · rw [List.range_succ, List.map_append]
    have e1 : (List.range m).map (fun i => Value.map (some (bset Bf m wr.heap.size i))) = (List.range m).map fun i => Value.map (some (Bf i)) := by
      refine List.map_congr_left fun i hi => ?_
      have := List.mem_range.1 hi
      unfold bset
      rw [if_neg (by omega)]
    rw [e1]
    simpa [bset] using own3
  · unfold bset
    by_cases e : i = m
    · subst e
      rw [if_pos rfl]
      exact ⟨hG, (own_below own2 belx).kept gr3 (by simp; omega)⟩
    · rw [if_neg e]
      obtain ⟨h1, h2⟩ := h.2 i (by omega)
      exact ⟨h1, (own_below (own_below h2 bel2) belx).kept gr3 (by simp; omega)⟩

def Std (W : World) (b o n : Nat) (A : Nat → Option Addr) (L Cp : Nat → Nat) (N C : Nat → Nat → Int) (G M : Nat) (Bf : Nat → Nat) : Prop :=
  Arg W b o n A L Cp N C ∧ Ins W G n n Bf (FF N C L) ∧ W.ownsMap Yba.prog 9 (plainElem Yba.prog 30) M 4 (dat (pf (mx (FF N C L) n)))
theorem Arg.later {w W : World} {b o n : Nat} {A : Nat → Option Addr} {L Cp : Nat → Nat} {N C : Nat → Nat → Int} (h : Arg w b o n A L Cp N C) (hb : Below w.heap.size w W) : Arg W b o n A L Cp N C :=
  fun i hi => ⟨cell_later hb (h i hi).1, Ents.later (h i hi).2.1 hb, (h i hi).2.2⟩
theorem Ins.later {w W : World} {G n k : Nat} {Bf : Nat → Nat} {F : Nat → Nat → Option Int} (h : Ins w G n k Bf F) (hb : Below w.heap.size w W) : Ins W G n k Bf F :=
  ⟨row_below h.1 hb, fun i hi => ⟨(h.2 i hi).1, own_below (h.2 i hi).2 hb⟩⟩
theorem Std.later {w W : World} {b o n : Nat} {A : Nat → Option Addr} {L Cp : Nat → Nat} {N C : Nat → Nat → Int} {G M : Nat} {Bf : Nat → Nat} (h : Std w b o n A L Cp N C G M Bf) (hb : Below w.heap.size w W) : Std W b o n A L Cp N C G M Bf :=
  ⟨h.1.later hb, h.2.1.later hb, own_below h.2.2 hb⟩

set_option maxHeartbeats 2000000 in
set_option maxRecDepth 100000 in
theorem ent_any (a : Option Addr) (b o n c : Nat) (haa : Hid (0 < n → a = some ⟨b, o, none⟩)) (A : Nat → Option Addr) (L Cp : Nat → Nat) (N C : Nat → Nat → Int) (w : World) (hn : n ≤ 1024) (hnc : n ≤ c) (hA : Arg w b o n A L Cp N C) :
    Calls Yba.prog 3 #[.slice a n c] w fun e w' => e = .returned (.bool true) ∧ Below w.heap.size w w' := by
  have hmm := @run_makeMap Yba.prog
  obtain ⟨i0, hi, hz0, hz1, hz2⟩ := info_parts Yba.info26
  have HA : Hid (Arg w b o n A L Cp N C) := hA
  clear hA
  have hni : ¬ (1024 : Int) < n := by omega
  go_enter Yba.func3, Yba.ntmps3
  go_wp2
  go_loop [27, 3] (fun i s => ∃ (k : Nat) (tot : Nat), i = .int .i64 k ∧ s = .int .i64 tot ∧ k ≤ n ∧ tot ≤ 1024 ∧ Hid (∀ i, i < k → L i ≤ 1024)) (fun i _ => n - (intOf i).toNat)
  case atStart => exact ⟨0, 0, rfl, rfl, Nat.zero_le _, Nat.zero_le _, fun i hi => by omega⟩
  case round =>
    obtain ⟨k, tot, rfl, rfl, hk, htot, hall⟩ := hrel
    by_cases hlt : k < n
    · obtain rfl := haa.out (by omega)
      obtain ⟨d0, _, d2⟩ := HA.out k hlt
      by_cases hbig : (1024 : Int) < (tot : Int) + (L k : Int)
      · go_wp2
        go_ret
        exact ⟨rfl, Below.refl _ _⟩
      · go_wp2
        go_round
        case rel =>
          refine ⟨k + 1, tot + L k, by go_num, by go_num, by omega, by omega, fun i hi => ?_⟩
          rcases Nat.lt_succ_iff_lt_or_eq.1 hi with h | rfl
          · exact hall.out i h
          · omega
        case measure => simp [intOf]; omega
    · obtain rfl : k = n := by omega
      go_upto_region 12 with (at_make; refine wpList_make_own _ rfl (.const (.int .i64 0)) (.tmp 39) 24 rfl w.heap.size 26 i0 (.map none) 1 Yba.underlying24 hi hz0 hz1 .i64 .i64 _ k rfl rfl rfl (by rw [hz2]; omega) (by unfold maxLen; omega) (Nat.le_refl _) ?_; intro w1 own1 gr1)
      have own1' := own1
      have bel1 := (Below.refl w.heap.size w).grown gr1 (Nat.le_refl _) (by simp)
      clear own1 gr1
      go_wp2
      go_loopw [43, 6] (fun i s wr => ∃ (m : Nat) (Bf : Nat → Nat), i = .int .i64 m ∧ s = .slice (some ⟨w.heap.size, 0, none⟩) m k ∧ m ≤ k ∧ Ins wr w.heap.size k m Bf (FF N C L) ∧ Below w.heap.size w wr) (fun i _ _ => k - (intOf i).toNat)
      case atStart => exact ⟨0, fun _ => 0, rfl, rfl, Nat.zero_le _, ⟨own1', fun i hi => by omega⟩, bel1⟩
      case round =>
        obtain ⟨m, Bf, rfl, rfl, hm, hins, hbel⟩ := hrel
        by_cases hlt : m < k
        · obtain rfl := haa.out (by omega)
          obtain ⟨e0, e1, e2⟩ := HA.out m hlt
          have d0 := cell_later hbel e0
          have d1 := Ents.later e1 hbel
          have hL := hall.out m hlt
          have HB : Hid _ := hbel
          have HI : Hid _ := hins
          clear hbel hins e0 e1 e2
          go_wp2_with (first
            | (go_at_call 6; refine (build_all _ _ _ _ _ wr hL d1).mono ?_; rintro e w2 ⟨rfl, own2, bel2⟩)
            | (at_builtin; refine wpList_append_fits _ rfl (.tmp 47) (.tmp 50) 24 rfl w.heap.size 26 i0 1 Yba.underlying24 hi hz1 w.heap.size m k _ rfl ((row_below HI.out.1 bel2).alloc _) ⟨w2.heap.size, 0, none⟩ 1 1 [.map (some wr.heap.size)] rfl rfl (cell_one_new _ _ _) (by intro u hu; simp at hu; subst hu; rfl) (by omega) ?_; intro w3 own3 gr3))
          go_roundw
          case rel =>
            refine ⟨m + 1, _, by go_num, rfl, by omega, Ins.step HI.out bel2 own2 ((Below.refl _ _).alloc (Nat.le_refl _) _) own3 gr3, ?_⟩
            have := HB.out.size
            exact ((HB.out.trans (bel2.mono this)).alloc (by have := bel2.size; omega) _).grown gr3 (by have := bel2.size; simp; omega) (fun j hj => by cases hj; omega)
          case measure => simp [intOf]; omega
        · obtain rfl : m = k := by omega
          have HI : Hid _ := hins
          have hbs := hbel.size
          clear hins
          have hmn := fun w r => run_eql_map_nil (P := Yba.prog) w 26 9 30 r Yba.underlying26
          go_wp2_with (first
            | (go_at_call 7; refine (max_any _ _ _ Bf (FF N C L) _ hn (Nat.le_refl _) (by intro i hi; rw [Nat.zero_add, HI.out.1.cellAt i (by omega)]; simp [hi]) (fun i hi => (HI.out.2 i hi).2)).mono ?_; rintro e w2 ⟨rfl, own2, bel2⟩))
          have hst : Hid (Std w2 b o m A L Cp N C w.heap.size wr.heap.size Bf) := ⟨HA.out.later (hbel.trans (bel2.mono hbs)), Ins.later HI.out bel2, own2⟩
          have hb2 : Below w.heap.size w w2 := hbel.trans (bel2.mono hbs)
          obtain ⟨M, hM⟩ : ∃ M, M = wr.heap.size := ⟨_, rfl⟩
          rw [← hM] at hst
          simp only [← hM]
          have hMs : w2.heap.size > M := by have := own2.lt; omega
          clear own2 bel2 HI hbel hM
          have hw2 := hb2.size
          go_loopw [60, 11] (fun i p W => ∃ (x pos : Nat) (g : Nat → Bool), i = .int .i64 x ∧ p = .int .i64 pos ∧ x ≤ m ∧ Hid (pos = cnt g (mx (FF N C L) m)) ∧ Hid (∀ i, i < x → ∀ e, e < L i → g (N i e % 4).toNat = true) ∧ W.ownsMap Yba.prog 9 (plainElem Yba.prog 4) w2.heap.size 4 (datB g) ∧ Below w2.heap.size w2 W) (fun i _ _ => m - (intOf i).toNat)
          case atStart => exact ⟨0, 0, fun _ => false, rfl, rfl, Nat.zero_le _, rfl, fun i hi => by omega, own4B (World.ownsMap_made _ _ _ _), (Below.refl _ _).alloc (Nat.le_refl _) _⟩
          case round =>
            obtain ⟨x, pos, g, rfl, rfl, hx, hpos, hseen, hS, hbS⟩ := hrel
            by_cases hlt : x < m
            · obtain rfl := haa.out (by omega)
              obtain ⟨d0, d1, d2⟩ := hst.out.1.later hbS x hlt
              have hL := hall.out x hlt
              obtain ⟨wo, hwo⟩ : ∃ wo : World, wo = wr := ⟨_, rfl⟩
              subst hwo
              go_wp2
              go_loopw [66, 11] (fun i p W => ∃ (y pos : Nat) (g : Nat → Bool), i = .int .i64 y ∧ p = .int .i64 pos ∧ y ≤ L x ∧ Hid (pos = cnt g (mx (FF N C L) m)) ∧ Hid (∀ i, i < x → ∀ e, e < L i → g (N i e % 4).toNat = true) ∧ Hid (∀ e, e < y → g (N x e % 4).toNat = true) ∧ W.ownsMap Yba.prog 9 (plainElem Yba.prog 4) w2.heap.size 4 (datB g) ∧ Below w2.heap.size w2 W) (fun i _ _ => L x - (intOf i).toNat)
              case atStart => exact ⟨0, pos, g, rfl, rfl, Nat.zero_le _, hpos, hseen, fun e he => by omega, hS, hbS⟩
              case round =>
                clear hS hbS hseen hpos
                obtain ⟨y, pos, g, rfl, rfl, hy, hpos, hseen, hseen2, hS, hbS⟩ := hrel
                have hps : pos ≤ 4 := by rw [hpos.out]; exact cnt_le _ _
                have hbs := hbS.size
                by_cases hlt2 : y < L x
                · have hE := (hst.out.1.later hbS x hlt).2.1
                  obtain ⟨b1, o1, hA1, hE1⟩ := hE.2 (by omega)
                  have hLC : L x ≤ Cp x := hE.1
                  obtain ⟨e0, e1, e2, e3, e4⟩ := hE1 y hlt2
                  have HS : Hid _ := hS
                  have HB : Hid _ := hbS
                  clear hS hbS hE1 hE
                  obtain ⟨j, hj⟩ : ∃ j, j = (N x y % 4).toNat := ⟨_, rfl⟩
                  have hj4 : j < 4 := by omega
                  have hnm := fun w' => name_any (N x y) w' e2 e3
                  rw [← hj] at hnm
                  have HJ : Hid (j = (N x y % 4).toNat) := hj
                  clear hj
                  rw [hA1]
                  by_cases hg : g j = true
                  · go_wp2_with (first
                      | (go_at_call 8; refine (hnm _).mono ?_; rintro e w' ⟨rfl, rfl⟩)
                      | (at_lookup; refine wpList_lookup_B _ rfl _ _ rfl w2.heap.size 4 g j hj4 rfl (own_below HS.out (by repeat (first | exact Below.refl _ _ | apply Below.drew | refine Below.alloc ?_ (Nat.le_refl _) _))) rfl ?_; rw [hg]))
                    go_roundw
                    case rel => exact ⟨y + 1, pos, g, by go_num, rfl, by omega, hpos, hseen, fun e he => by rcases Nat.lt_succ_iff_lt_or_eq.1 he with h | rfl; exact hseen2.out e h; rw [← HJ.out]; exact hg, own_below HS.out ((Below.refl _ _).alloc (Nat.le_refl _) _), HB.out.alloc hbs _⟩
                    case measure => simp [intOf]; omega
                  · have hgf : g j = false := by simpa using hg
                    go_wp2_with (first
                      | (go_at_call 8; refine (hnm _).mono ?_; rintro e w' ⟨rfl, rfl⟩)
                      | (at_lookup; refine wpList_lookup_B _ rfl _ _ rfl w2.heap.size 4 g j hj4 rfl (own_below HS.out (by repeat (first | exact Below.refl _ _ | apply Below.drew | refine Below.alloc ?_ (Nat.le_refl _) _))) rfl ?_; rw [hgf])
                      | (at_mapUpdate; refine wpList_mapUpdate_own _ rfl _ _ _ 29 rfl 9 4 law9 Yba.underlying29 _ w2.heap.size 4 _ rfl (own_below HS.out (by repeat (first | exact Below.refl _ _ | apply Below.drew | refine Below.alloc ?_ (Nat.le_refl _) _))) (by unfold maxLen; omega) _ _ _ rfl rfl (keyOf_nm j) _ [] (plainElem_bool Yba.underlying4 true) ?_; intro w4 hown4 hg4; go_frame))
                    have hb4 : Below w2.heap.size w2 w4 := (HB.out.alloc hbs _).grown hg4 (by simp; omega) (by simp)
                    rw [put_datB g j hj4] at hown4
                    have HS4 : Hid _ := own4B hown4
                    have hst4 : Hid _ := hst.out.later hb4
                    have HB4 : Hid _ := hb4
                    clear hown4 hg4 HS HB
                    have hfin : (pf (mx (FF N C L) m) j).getD 0 = mx (FF N C L) m j := by
                      have := mx_nonneg (FF N C L) m j
                      unfold pf
                      split <;> simp
                      omega
                    have hfs : (pf (mx (FF N C L) m) j).isSome = decide (0 < mx (FF N C L) m j) := by
                      unfold pf
                      split <;> simp [*]
                    have HF1 : Hid _ := hfin
                    have HF2 : Hid _ := hfs
                    clear hfin hfs hb4
                    go_loop [80, 17] (fun i v => ∃ z : Nat, i = .int .i64 z ∧ v = .int .u64 (mx (FF N C L) z j) ∧ z ≤ m) (fun i _ => m - (intOf i).toNat)
                    case atStart => exact ⟨0, rfl, rfl, Nat.zero_le _⟩
                    case round =>
                      obtain ⟨z, rfl, rfl, hz⟩ := hrel
                      by_cases hlt3 : z < m
                      · have hI := hst4.out.2.1
                        have c0 : w4.cell? ⟨w.heap.size, z, none⟩ = some (.map (some (Bf z))) := by rw [hI.1.cellAt z (by omega)]; simp [hlt3]
                        have hOz : Hid _ := (hI.2 z hlt3).2
                        clear hI
                        have hmz : mx (FF N C L) (z + 1) j = max (mx (FF N C L) z j) ((FF N C L z j).getD 0) := rfl
                        have HMZ : Hid _ := hmz
                        clear hmz
                        by_cases hc : mx (FF N C L) z j < (FF N C L z j).getD 0
                        · go_wp2_with (at_lookup; refine wpList_lookup_dat _ rfl _ _ rfl (Bf z) 4 (FF N C L z) j hj4 rfl hOz.out rfl ?_)
                          go_round
                          case rel => exact ⟨z + 1, by go_num, by rw [HMZ.out]; congr 1; omega, by omega⟩
                          case measure => simp [intOf]; omega
                        · go_wp2_with (at_lookup; refine wpList_lookup_dat _ rfl _ _ rfl (Bf z) 4 (FF N C L z) j hj4 rfl hOz.out rfl ?_)
                          go_round
                          case rel => exact ⟨z + 1, by go_num, by rw [HMZ.out]; congr 1; omega, by omega⟩
                          case measure => simp [intOf]; omega
                      · obtain rfl : z = m := by omega
                        have hOm : Hid _ := hst4.out.2.2
                        by_cases hp : 0 < mx (FF N C L) z j
                        · have hp' : ¬ mx (FF N C L) z j = 0 := by omega
                          go_wp2_with (at_lookup; refine wpList_lookup_ok _ rfl _ _ rfl M 4 (pf (mx (FF N C L) z)) j hj4 rfl hOm.out rfl ?_; rw [HF1.out, HF2.out])
                          go_roundw
                          case rel => exact ⟨y + 1, pos + 1, updB g j, by go_num, by go_num, by omega, (by show _ = _; rw [hpos.out, cnt_hit _ _ _ hj4 hgf hp]), fun i hi e he => updB_mono (hseen.out i hi e he), fun e he => by rcases Nat.lt_succ_iff_lt_or_eq.1 he with h | rfl; exact updB_mono (hseen2.out e h); rw [← HJ.out]; exact updB_self _ _, HS4.out, HB4.out⟩
                          case measure => simp [intOf]; omega
                        · have hp' : mx (FF N C L) z j = 0 := by have := mx_nonneg (FF N C L) z j; omega
                          go_wp2_with (at_lookup; refine wpList_lookup_ok _ rfl _ _ rfl M 4 (pf (mx (FF N C L) z)) j hj4 rfl hOm.out rfl ?_; rw [HF1.out, HF2.out, hp'])
                          go_roundw
                          case rel => exact ⟨y + 1, pos, updB g j, by go_num, rfl, by omega, (by show _ = _; rw [hpos.out, cnt_miss _ _ _ hp]), fun i hi e he => updB_mono (hseen.out i hi e he), fun e he => by rcases Nat.lt_succ_iff_lt_or_eq.1 he with h | rfl; exact updB_mono (hseen2.out e h); rw [← HJ.out]; exact updB_self _ _, HS4.out, HB4.out⟩
                          case measure => simp [intOf]; omega
                · obtain rfl : y = L x := by omega
                  go_wp2
                  go_roundw
                  case rel => exact ⟨x + 1, pos, g, by go_num, rfl, by omega, hpos, fun i hi e he => by rcases Nat.lt_succ_iff_lt_or_eq.1 hi with h | rfl; exact hseen.out i h e he; exact hseen2.out e he, hS, hbS⟩
                  case measure => simp [intOf]; omega
            · obtain rfl : x = m := by omega
              have hOm : Hid _ := (hst.out.later hbS).2.2
              have hsz : Hid (Maps.size (dat (pf (mx (FF N C L) x))) = pos) := by show _ = _; rw [hpos.out]; exact cnt_all _ _ (all_seen hseen.out)
              go_wp2_with (at_len; refine wpList_len_own _ rfl _ 26 rfl 9 30 Yba.underlying26 _ M 4 _ rfl hOm.out ?_; rw [hsz.out])
              go_ret
              exact ⟨rfl, hb2.trans (hbS.mono hw2)⟩

theorem ent_far (a : Option Addr) (n c : Nat) (w : World) (hn : 1024 < n) :
    Calls Yba.prog 3 #[.slice a n c] w fun e w' => e = .returned (.bool true) ∧ Below w.heap.size w w' := by
  have hni : (1024 : Int) < n := by omega
  go_enter Yba.func3, Yba.ntmps3
  go_wp2
  go_ret
  exact ⟨rfl, Below.refl _ _⟩
end Go.Proofs.Ybulkymy
