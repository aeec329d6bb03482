/-
  The walk of LawS1230BBuilt.
-/
import Derived.Test.YbulkyliFmtParse
import Derived.Deep.DeepCutAuto
import Derived.Laws.AppendOwnNone
import Derived.OpenShut
namespace Go.Proofs.YbulkyliFmt
open Go.RowKit
attribute [local simp] rd_any wr_16 wr_18 wr_19
attribute [local go_sem] cellOr Value.oneCell' rd_run0 rd_run1 rd_run2 rd_run16 rd_run18 rd_run19 wr_run rowLen_drewN rowLen_drew rowLen_at rowLen_past putRow_at putRow_past putRow_drew putRow_drewN eq23

theorem Ybaf.info5 : (Ybaf.prog.info? 5).map (fun i => (i.zero, i.size, i.bytes)) = some (some (.int .u8 0), 1, 1) := by kernel_rfl

def IsRow (k : IntKind) (w : World) (a : Option Addr) (len cap : Nat) (zs : List Int) : Prop :=
  (a = none ∧ len = 0 ∧ cap = 0 ∧ zs = []) ∨
  ∃ x, a = some x ∧ len ≤ cap ∧ cap ≤ maxLen ∧ zs.length = cap ∧ (∀ i, i < zs.length → w.cell? (x.add i) = some (.int k (zs.getD i 0))) ∧ ∀ n ∈ zs, (Lit.int k n).wf = true

theorem IsRow.src {k : IntKind} {w : World} {a : Option Addr} {len cap : Nat} {zs : List Int} (h : IsRow k w a len cap zs) (W : World) (hb : Below w.heap.size w W) :
    ∀ ad, a = some ad → ∀ j, j < zs.length → W.cell? (ad.add j) = some (.int k (zs.getD j 0)) := by
  rcases h with ⟨rfl, _⟩ | ⟨x, rfl, _, _, _, hc, _⟩
  · intro ad h; cases h
  · intro ad had j hj
    cases had
    exact cell_later hb (hc j hj)
theorem IsRow.nilOf {k : IntKind} {w : World} {a : Option Addr} {len cap : Nat} {zs : List Int} (h : IsRow k w a len cap zs) : a = none → len = 0 ∧ cap = 0 := by
  rcases h with ⟨_, h1, h2, _⟩ | ⟨x, rfl, _⟩
  · exact fun _ => ⟨h1, h2⟩
  · intro h; cases h
theorem IsRow.le {k : IntKind} {w : World} {a : Option Addr} {len cap : Nat} {zs : List Int} (h : IsRow k w a len cap zs) : len ≤ zs.length := by
  rcases h with ⟨_, h1, _, _⟩ | ⟨x, _, h1, _, h2, _⟩ <;> omega
theorem IsRow.bd {w : World} {a : Option Addr} {len cap : Nat} {zs : List Int} (h : IsRow .u8 w a len cap zs) : ∀ n ∈ zs, 0 ≤ n ∧ n < 256 := by
  rcases h with ⟨_, _, _, rfl⟩ | ⟨x, _, _, _, _, _, h1⟩
  · intro n hn; cases hn
  · intro n hn
    have := h1 n hn
    have := bounds_u8 this
    omega

theorem IsRow.plain {k : IntKind} {w : World} {a : Option Addr} {len cap : Nat} {zs : List Int} (h : IsRow k w a len cap zs) (hp : 0 < len) :
    ∃ b o, a = some ⟨b, o, none⟩ ∧ ∀ i, i < zs.length → w.cell? ⟨b, o + i, none⟩ = some (.int k (zs.getD i 0)) := by
  rcases h with ⟨_, h1, _⟩ | ⟨x, rfl, h1, _, h2, hc, _⟩
  · omega
  · obtain ⟨b, o, hx, hcc⟩ := ints_at hc (by omega)
    subst hx
    exact ⟨b, o, rfl, hcc⟩

/-- 'append' onto a row of the call's own, whatever the source: nil, empty, or not. -/
theorem append_any {w : World} {ops : Array Oper} {rest : List Oper} {o : Oper} {a : Act} {Q : Exit → Act → World → Prop} (hgd : o.guard = none) (s x : Operand)
    (ho : o.op = .call { callee := .builtin .append, args := #[s, x], argTypes := #[22, 22] })
    (base : Nat) (g n cap : Nat) (xs : List Value) (hs : a.eval s = .slice (some ⟨g, 0, none⟩) n cap) (hown : w.ownsRow base 5 1 (.slice (some ⟨g, 0, none⟩) n cap) n xs)
    (ao : Option Addr) (m c : Nat) (zs : List Int) (hx : a.eval x = .slice ao m c) (hm : m ≤ zs.length) (hnone : ao = none → m = 0 ∧ c = 0) (hnews : ∀ ad, ao = some ad → ∀ j, j < zs.length → w.cell? (ad.add j) = some (.int .u8 (zs.getD j 0)))
    (hbytes : n + m ≤ 65536) (hbase : base ≤ w.heap.size)
    (h : ∀ g' c' w', w'.ownsRow base 5 1 (.slice (some ⟨g', 0, none⟩) (n + m) c') (n + m) (xs ++ (zs.take m).map (Value.int .u8)) → w.grownBy w' (some g) → wpList Ybaf.prog ops Q rest (a.put o.dst (.slice (some ⟨g', 0, none⟩) (n + m) c')) w') :
    wpList Ybaf.prog ops Q (o :: rest) a w := by
  obtain ⟨i0, hi, hz0, hz1, hz2⟩ := info_parts Ybaf.info5
  cases ao with
  | none =>
    obtain ⟨rfl, rfl⟩ := hnone rfl
    refine wpList_append_own_none hgd s x 22 ho base 5 i0 1 Ybaf.underlying22 hi _ n xs hs hown hx ?_
    exact h g cap w (by simpa using hown) (World.grownBy.refl _ _)
  | some ad =>
    refine wpList_append_own _ hgd s x 22 ho base 5 i0 (.int .u8 0) 1 1 Ybaf.underlying22 hi hz0 hz1 hz2 rfl (by decide) _ n xs hs hown ad m c ((zs.take m).map (Value.int .u8)) hx (by simp; omega) ?_ (ints_oneCell _ _) (by unfold maxLen; omega) (by omega) hbase ?_
    · intro j u hj
      have hjm : j < m ∧ j < zs.length := by
        have := (List.getElem?_eq_some_iff.1 hj).1
        simp at this; omega
      rw [hnews ad rfl j hjm.2]
      simp [hjm] at hj
      rw [← hj]
      simp [List.getD, List.getElem?_eq_getElem hjm.2]
    · intro v' w' hown' hgr hnil
      have hex : ∃ g' c', v' = .slice (some ⟨g', 0, none⟩) (n + m) c' := by
        rcases hown'.2 with ⟨hv, _⟩ | ⟨g', c', cur, hv, _⟩
        · exact absurd (hnil.1 hv).1 (by simp)
        · exact ⟨g', c', hv⟩
      obtain ⟨g', c', rfl⟩ := hex
      exact h g' c' w' hown' hgr

/-- While d is built: a row of the call's own, the block that was made behind wc; below it all is as it was. -/
def St (wc : World) (cap k : Nat) (ds : List Value) (W : World) : Prop :=
  Below wc.heap.size wc W ∧ W.ownsRow wc.heap.size 5 1 (.slice (some ⟨wc.heap.size, 0, none⟩) k cap) k ds
theorem St.alloc {wc W : World} {cap k : Nat} {ds : List Value} (h : St wc cap k ds W) (o : Obj) : St wc cap k ds (W.alloc o) :=
  ⟨h.1.alloc h.1.size _, h.2.alloc _⟩
theorem cells1 (w : World) (v : Value) (t : TypeId) : ∀ j u, [v][j]? = some u → (w.alloc (.cells #[v] t)).cell? ((⟨w.heap.size, 0, none⟩ : Addr).add j) = some u := by
  intro j u hj
  rw [Addr.add_mid, Nat.zero_add, World.cell?_alloc_new]
  simpa using hj
theorem cells2 (w : World) (v v' : Value) (t : TypeId) : ∀ j u, [v, v'][j]? = some u → (w.alloc (.cells #[v, v'] t)).cell? ((⟨w.heap.size, 0, none⟩ : Addr).add j) = some u := by
  intro j u hj
  rw [Addr.add_mid, Nat.zero_add, World.cell?_alloc_new]
  simpa using hj
theorem cellsB {w : World} {g : Nat} {cs : List Value} {t : TypeId} {fr : Nat × Nat} (h : w.heap[g]? = some (.cells cs.toArray t fr)) : ∀ j u, cs[j]? = some u → w.cell? ((⟨g, 0, none⟩ : Addr).add j) = some u := by
  intro j u hj
  rw [Addr.add_mid, Nat.zero_add, cell_of_row w g j _ t fr h]
  simpa using hj
theorem app_fits {wc W : World} {ops : Array Oper} {rest : List Oper} {o : Oper} {a : Act} {Q : Exit → Act → World → Prop} {cap k : Nat} {ds : List Value} (hgd : o.guard = none) (s x : Operand)
    (ho : o.op = .call { callee := .builtin .append, args := #[s, x], argTypes := #[22, 22] }) (hst : St wc cap k ds W) (k' : Nat)
    (hs : a.eval s = .slice (some ⟨wc.heap.size, 0, none⟩) k cap) (ad : Addr) (m c : Nat) (news : List Value) (hx : a.eval x = .slice (some ad) m c) (hn : news.length = m)
    (hc : ∀ j u, news[j]? = some u → W.cell? (ad.add j) = some u) (h1c : ∀ u ∈ news, u.oneCell' = true) (hk : k' = k + m ∧ k' ≤ cap)
    (h : ∀ w', St wc cap k' (ds ++ news) w' → wpList Ybaf.prog ops Q rest (a.put o.dst (.slice (some ⟨wc.heap.size, 0, none⟩) k' cap)) w') : wpList Ybaf.prog ops Q (o :: rest) a W := by
  obtain ⟨i0, hi, hz0, hz1, hz2⟩ := info_parts Ybaf.info5
  obtain ⟨rfl, hk⟩ := hk
  refine wpList_append_fits _ hgd s x 22 ho wc.heap.size 5 i0 1 Ybaf.underlying22 hi hz1 wc.heap.size k cap ds hs hst.2 ad m c news hx (by omega) hc h1c hk ?_
  intro w' own' gr'
  exact h w' ⟨hst.1.grown gr' hst.1.size (by simp), own'⟩

theorem getAt (A B : List Value) (n i j : Nat) (hn : A.length = n) (hj : j = n + i) : (A ++ B)[j]? = B[i]? := by
  subst hn; subst hj
  rw [List.getElem?_append_right (by omega)]
  congr 1
  omega

theorem mapAt (xs : List Int) (R : List Value) (i : Nat) (h : i < xs.length) : (xs.map (Value.int .u8) ++ R)[i]? = some (.int .u8 (xs.getD i 0)) := by
  rw [List.getElem?_append_left (by simpa using h)]
  simp [List.getD, List.getElem?_eq_getElem h]
theorem mapAt' (xs : List Int) (i : Nat) (h : i < xs.length) : (xs.map (Value.int .u8))[i]? = some (.int .u8 (xs.getD i 0)) := by
  simp [List.getD, List.getElem?_eq_getElem h]

set_option maxHeartbeats 4000000 in
set_option maxRecDepth 100000 in
theorem built_walk (x0 x1 x2 x3 x4 x5 x6 x7 x8 x9 x10 x11 x12 x13 x14 x15 : Int) (m0 m1 m2 m3 m4 m5 m6 m7 m8 m9 m10 m11 m12 m13 m14 m15 : Int) (a1 : Option Addr) (n1 c1 : Nat) (z1 : List Int) (bl : Int) (a3 : Option Addr) (n3 c3 : Nat) (z3 : List Int) (w : World)
    (w1 : IsRow .u8 w a1 n1 c1 z1) (w3 : IsRow .u8 w a3 n3 c3 z3) (wb : 0 ≤ bl) (wb' : bl ≤ 255) (hn1 : n1 ≤ 255) (hn3 : n3 ≤ 4096) :
    Calls Ybaf.prog 4 #[.agg #[.int .u8 x0, .int .u8 x1, .int .u8 x2, .int .u8 x3, .int .u8 x4, .int .u8 x5, .int .u8 x6, .int .u8 x7, .int .u8 x8, .int .u8 x9, .int .u8 x10, .int .u8 x11, .int .u8 x12, .int .u8 x13, .int .u8 x14, .int .u8 x15], .slice a1 n1 c1, .int .u8 bl, .slice a3 n3 c3, .agg #[.int .u8 m0, .int .u8 m1, .int .u8 m2, .int .u8 m3, .int .u8 m4, .int .u8 m5, .int .u8 m6, .int .u8 m7, .int .u8 m8, .int .u8 m9, .int .u8 m10, .int .u8 m11, .int .u8 m12, .int .u8 m13, .int .u8 m14, .int .u8 m15]] w fun e w' => e = .returned (.bool true) ∧ Below w.heap.size w w' := by
  obtain ⟨i0, hi, hz0, hz1, hz2⟩ := info_parts Ybaf.info5
  have hn1i : (n1 : Int) ≤ 255 := by omega
  have hn3i : (n3 : Int) ≤ 4096 := by omega
  have hsrc1 : Hid (∀ W, Below w.heap.size w W → ∀ ad, a1 = some ad → ∀ j, j < z1.length → W.cell? (ad.add j) = some (.int .u8 (z1.getD j 0))) := fun W hb => w1.src W hb
  have hnone1 : Hid (a1 = none → n1 = 0 ∧ c1 = 0) := w1.nilOf
  have hle1 : n1 ≤ z1.length := w1.le
  have hbd1 : Hid (∀ n ∈ z1, 0 ≤ n ∧ n < 256) := w1.bd
  have own0 : (((w.alloc (.cells #[.int .u8 x0, .int .u8 x1, .int .u8 x2, .int .u8 x3, .int .u8 x4, .int .u8 x5, .int .u8 x6, .int .u8 x7, .int .u8 x8, .int .u8 x9, .int .u8 x10, .int .u8 x11, .int .u8 x12, .int .u8 x13, .int .u8 x14, .int .u8 x15] 23)).alloc (.cells #[.int .u8 m0, .int .u8 m1, .int .u8 m2, .int .u8 m3, .int .u8 m4, .int .u8 m5, .int .u8 m6, .int .u8 m7, .int .u8 m8, .int .u8 m9, .int .u8 m10, .int .u8 m11, .int .u8 m12, .int .u8 m13, .int .u8 m14, .int .u8 m15] 23)).alloc (.cells #[] 5)).ownsRow (w.heap.size + 2) 5 1 (.slice (some ⟨w.heap.size + 1 + 1, 0, none⟩) 0 0) 0 [] := by
    have := World.ownsRow_lit (base := w.heap.size + 2) (e := 5) (size := 1) ((w.alloc (.cells #[.int .u8 x0, .int .u8 x1, .int .u8 x2, .int .u8 x3, .int .u8 x4, .int .u8 x5, .int .u8 x6, .int .u8 x7, .int .u8 x8, .int .u8 x9, .int .u8 x10, .int .u8 x11, .int .u8 x12, .int .u8 x13, .int .u8 x14, .int .u8 x15] 23)).alloc (.cells #[.int .u8 m0, .int .u8 m1, .int .u8 m2, .int .u8 m3, .int .u8 m4, .int .u8 m5, .int .u8 m6, .int .u8 m7, .int .u8 m8, .int .u8 m9, .int .u8 m10, .int .u8 m11, .int .u8 m12, .int .u8 m13, .int .u8 m14, .int .u8 m15] 23)) #[] 0 (by simp) (by decide) rfl
    simpa using this
  have bel0 : Below (w.heap.size + 2) ((w.alloc (.cells #[.int .u8 x0, .int .u8 x1, .int .u8 x2, .int .u8 x3, .int .u8 x4, .int .u8 x5, .int .u8 x6, .int .u8 x7, .int .u8 x8, .int .u8 x9, .int .u8 x10, .int .u8 x11, .int .u8 x12, .int .u8 x13, .int .u8 x14, .int .u8 x15] 23)).alloc (.cells #[.int .u8 m0, .int .u8 m1, .int .u8 m2, .int .u8 m3, .int .u8 m4, .int .u8 m5, .int .u8 m6, .int .u8 m7, .int .u8 m8, .int .u8 m9, .int .u8 m10, .int .u8 m11, .int .u8 m12, .int .u8 m13, .int .u8 m14, .int .u8 m15] 23)) (((w.alloc (.cells #[.int .u8 x0, .int .u8 x1, .int .u8 x2, .int .u8 x3, .int .u8 x4, .int .u8 x5, .int .u8 x6, .int .u8 x7, .int .u8 x8, .int .u8 x9, .int .u8 x10, .int .u8 x11, .int .u8 x12, .int .u8 x13, .int .u8 x14, .int .u8 x15] 23)).alloc (.cells #[.int .u8 m0, .int .u8 m1, .int .u8 m2, .int .u8 m3, .int .u8 m4, .int .u8 m5, .int .u8 m6, .int .u8 m7, .int .u8 m8, .int .u8 m9, .int .u8 m10, .int .u8 m11, .int .u8 m12, .int .u8 m13, .int .u8 m14, .int .u8 m15] 23)).alloc (.cells #[] 5)) := (Below.refl _ _).alloc (by simp) _
  have belw : Below w.heap.size w (((w.alloc (.cells #[.int .u8 x0, .int .u8 x1, .int .u8 x2, .int .u8 x3, .int .u8 x4, .int .u8 x5, .int .u8 x6, .int .u8 x7, .int .u8 x8, .int .u8 x9, .int .u8 x10, .int .u8 x11, .int .u8 x12, .int .u8 x13, .int .u8 x14, .int .u8 x15] 23)).alloc (.cells #[.int .u8 m0, .int .u8 m1, .int .u8 m2, .int .u8 m3, .int .u8 m4, .int .u8 m5, .int .u8 m6, .int .u8 m7, .int .u8 m8, .int .u8 m9, .int .u8 m10, .int .u8 m11, .int .u8 m12, .int .u8 m13, .int .u8 m14, .int .u8 m15] 23)).alloc (.cells #[] 5)) := (((Below.refl _ _).alloc (Nat.le_refl _) _).alloc (by simp) _).alloc (by simp; omega) _
  clear w1
  have W3 : Hid (IsRow .u8 w a3 n3 c3 z3) := w3
  clear w3
  go_enter Ybaf.func4, Ybaf.ntmps4
  go_upto_region 3 with fail
  go_cut [11] (fun v wc => ∃ g c, v = .slice (some ⟨g, 0, none⟩) n1 c ∧ wc.ownsRow (w.heap.size + 2) 5 1 v n1 ((z1.take n1).map (Value.int .u8)) ∧ Below (w.heap.size + 2) ((w.alloc (.cells #[.int .u8 x0, .int .u8 x1, .int .u8 x2, .int .u8 x3, .int .u8 x4, .int .u8 x5, .int .u8 x6, .int .u8 x7, .int .u8 x8, .int .u8 x9, .int .u8 x10, .int .u8 x11, .int .u8 x12, .int .u8 x13, .int .u8 x14, .int .u8 x15] 23)).alloc (.cells #[.int .u8 m0, .int .u8 m1, .int .u8 m2, .int .u8 m3, .int .u8 m4, .int .u8 m5, .int .u8 m6, .int .u8 m7, .int .u8 m8, .int .u8 m9, .int .u8 m10, .int .u8 m11, .int .u8 m12, .int .u8 m13, .int .u8 m14, .int .u8 m15] 23)) wc)
  case first =>
    go_wp2_with (at_builtin; refine append_any rfl (.tmp 28) (.tmp 29) rfl (w.heap.size + 2) (w.heap.size + 1 + 1) 0 0 [] rfl own0 a1 n1 c1 z1 rfl hle1 hnone1.out (hsrc1.out _ belw) (by omega) (by simp) ?_; intro g c w2 own2 gr2)
    simp only [Nat.zero_add, List.nil_append] at own2
    go_meet
    exact ⟨g, c, by simp, own2, bel0.grown gr2 (by simp) (by simp)⟩
  case rest =>
    obtain ⟨g, c, rfl, own2, bel2⟩ := hcut
    clear own0 bel0 belw hsrc1 hnone1
    go_upto_if 33 with fail
    go_cut [11] (fun v wc => ∃ (g c t : Nat) (xs : List Int), v = .slice (some ⟨g, 0, none⟩) t c ∧ 1 ≤ t ∧ t ≤ 255 ∧ Hid (xs.length = t ∧ ∀ x ∈ xs, 0 ≤ x ∧ x < 256) ∧ wc.ownsRow (w.heap.size + 2) 5 1 v t (xs.map (Value.int .u8)) ∧ Below (w.heap.size + 2) ((w.alloc (.cells #[.int .u8 x0, .int .u8 x1, .int .u8 x2, .int .u8 x3, .int .u8 x4, .int .u8 x5, .int .u8 x6, .int .u8 x7, .int .u8 x8, .int .u8 x9, .int .u8 x10, .int .u8 x11, .int .u8 x12, .int .u8 x13, .int .u8 x14, .int .u8 x15] 23)).alloc (.cells #[.int .u8 m0, .int .u8 m1, .int .u8 m2, .int .u8 m3, .int .u8 m4, .int .u8 m5, .int .u8 m6, .int .u8 m7, .int .u8 m8, .int .u8 m9, .int .u8 m10, .int .u8 m11, .int .u8 m12, .int .u8 m13, .int .u8 m14, .int .u8 m15] 23)) wc)
    case first =>
      by_cases h0 : n1 = 0
      · have h0' : ((n1 : Int) == 0) = true := by simp [h0]
        go_wp2_with fail
        go_meet
        refine ⟨wc.heap.size, 1, 1, [171], rfl, Nat.le_refl _, by omega, ⟨rfl, by simp⟩, ?_, bel2.alloc (by have := bel2.size; simpa using this) _⟩
        exact World.ownsRow_lit (base := w.heap.size + 2) (e := 5) (size := 1) wc #[.int .u8 171] 1 (by have := bel2.size; simpa using this) (by decide) rfl
      · have h0' : ((n1 : Int) == 0) = false := by simp [h0]
        go_wp2_with fail
        go_meet
        exact ⟨g, c, n1, z1.take n1, rfl, by omega, hn1, ⟨by simp; omega, fun x hx => hbd1.out x (List.mem_of_mem_take hx)⟩, own2, bel2⟩
    case rest =>
      obtain ⟨gT, cT, t, xs, rfl, ht1, ht2, hxs, ownT, belT⟩ := hcut
      clear own2 bel2 hbd1 hle1 hn1 hn1i
      go_upto_region 7 with fail
      go_cut [13] (fun v wx => ∃ N : Nat, v = .int .i64 N ∧ 16 ≤ N ∧ N ≤ 64 ∧ Hid (N % 16 = 0) ∧ wx = wc)
      case first =>
        go_wp2_with fail
        go_meet
        exact ⟨((bl % 4 + 1) * 16).toNat, by congr 1; omega, by omega, by omega, (show _ = _ by omega), rfl⟩
      case rest =>
        obtain ⟨N, hv, hN1, hN2, hN3, hw⟩ := hcut
        subst hv; subst hw
        have hE : w.heap.size + 2 ≤ wc.heap.size := by have := belT.size; simpa using this
        go_upto_if 46 with (at_make; refine wpList_make_full _ rfl (.tmp 42) (.tmp 42) 22 rfl wc.heap.size 5 i0 (.int .u8 0) 1 Ybaf.underlying22 hi hz0 hz1 .i64 .i64 N N N rfl rfl rfl rfl (by rw [hz2]; omega) (by unfold maxLen; omega) (Nat.le_refl _) ?_; intro w3 ownE grE)
        have belE : Below wc.heap.size wc w3 := (Below.refl _ _).grown grE (Nat.le_refl _) (by simp)
        rw [show (madeCells (Value.int .u8 0).cells (N * 1)).toList = (List.replicate N 0).map (Value.int .u8) from by rw [Nat.mul_one]; show (madeCells #[.int .u8 0] N).toList = _; rw [toList_madeCells_one]; simp] at ownE
        clear grE
        obtain ⟨wO, hwO⟩ : ∃ wO : World, wO = wc := ⟨_, rfl⟩
        subst hwO
        go_cut [] (fun wx => ∃ es : List Int, Hid (es.length = N ∧ ∀ x ∈ es, 0 ≤ x ∧ x < 256) ∧ wx.ownsRow wO.heap.size 5 1 (.slice (some ⟨wO.heap.size, 0, none⟩) N N) N (es.map (Value.int .u8)) ∧ Below wO.heap.size wO wx)
        case first =>
          by_cases h3 : n3 = 0
          · have h3' : ¬ 0 < (n3 : Int) := by omega
            clear h3
            go_wp2_with fail
            go_meet
            exact ⟨List.replicate N 0, ⟨by simp, by intro x hx; simp [List.mem_replicate] at hx; omega⟩, ownE, belE⟩
          · have h3' : 0 < (n3 : Int) := by omega
            have hn3p : 0 < n3 := by omega
            clear h3
            obtain ⟨b3, o3, ha3, hc3⟩ := W3.out.plain hn3p
            have hle3 := W3.out.le
            have hbd3 := W3.out.bd
            have hb3 : b3 < w.heap.size := World.block_lt_of_cell? _ _ (hc3 0 (by omega))
            have HC : Hid (∀ i, i < z3.length → w.cell? ⟨b3, o3 + i, none⟩ = some (.int .u8 (z3.getD i 0))) := hc3
            have HB : Hid (∀ n ∈ z3, 0 ≤ n ∧ n < 256) := hbd3
            clear hc3 hbd3 W3 ownT
            subst ha3
            have belw : Below w.heap.size w wO := ((((Below.refl _ _).alloc (Nat.le_refl _) _).alloc (by simp) _).trans (belT.mono (by omega)))
            go_wp2_with fail
            go_loopw [15] (fun i wr => ∃ (k : Nat) (es : List Int), i = .int .i64 k ∧ k ≤ N ∧ Hid (es.length = N ∧ ∀ x ∈ es, 0 ≤ x ∧ x < 256) ∧ wr.ownsRow wO.heap.size 5 1 (.slice (some ⟨wO.heap.size, 0, none⟩) N N) N (es.map (Value.int .u8)) ∧ Below wO.heap.size wO wr) (fun i _ => N - (intOf i).toNat)
            case atStart => exact ⟨0, List.replicate N 0, rfl, by omega, ⟨by simp, by intro x hx; simp [List.mem_replicate] at hx; omega⟩, ownE, belE⟩
            case round =>
              obtain ⟨k, es, rfl, hk, hes, ownR, belR⟩ := hrel
              by_cases hlt : k < N
              · have hmod : k % n3 < n3 := Nat.mod_lt _ hn3p
                have hcx : wr.cell? ⟨b3, o3 + k % n3, none⟩ = some (.int .u8 (z3.getD (k % n3) 0)) := cell_later (belw.trans (belR.mono (by omega))) (HC.out _ (by omega))
                have hce : wr.cell? ⟨wO.heap.size, k, none⟩ = some (.int .u8 (es.getD k 0)) := by
                  have hkl : k < es.length := by have := hes.out.1; omega
                  rw [ownR.cellAt k (by omega)]
                  simp [List.getD, List.getElem?_eq_getElem hkl]
                have hfe := ownR.frozenAt k
                have STO := ownR.stored k (.int .u8 (z3.getD (k % n3) 0))
                have NXT : Hid ((es.set k (z3.getD (k % n3) 0)).length = N ∧ ∀ x ∈ es.set k (z3.getD (k % n3) 0), 0 ≤ x ∧ x < 256) := by
                  refine ⟨by simpa using hes.out.1, fun x hx => ?_⟩
                  rcases List.mem_or_eq_of_mem_set hx with hx | rfl
                  · exact hes.out.2 x hx
                  · exact HB.out _ (by have : k % n3 < z3.length := by omega
                                       simp [List.getD, List.getElem?_eq_getElem this])
                have STO' : Hid (_ ∧ _) := STO
                clear STO
                go_wp2_with fail
                go_roundw
                case rel =>
                  exact ⟨k + 1, es.set k (z3.getD (k % n3) 0), by go_num, by omega, NXT, by rw [List.map_set]; exact STO'.out.1, belR.setCell (Nat.le_refl _) _⟩
                case measure => simp [intOf]; omega
              · go_wp2_with fail
                go_meet
                exact ⟨es, hes, ownR, belR⟩
        case rest =>
          clear ownE belE
          obtain ⟨es, hes, ownE, belE⟩ := hcut
          have hD : wO.heap.size ≤ wc.heap.size := belE.size
          have blkI : wc.heap[w.heap.size]? = some (.cells #[.int .u8 x0, .int .u8 x1, .int .u8 x2, .int .u8 x3, .int .u8 x4, .int .u8 x5, .int .u8 x6, .int .u8 x7, .int .u8 x8, .int .u8 x9, .int .u8 x10, .int .u8 x11, .int .u8 x12, .int .u8 x13, .int .u8 x14, .int .u8 x15] 23 (0, 0)) := by
            rw [belE.block _ (by omega), belT.block _ (by omega)]
            exact heap_alloc2_old w _ _
          have blkM : wc.heap[w.heap.size + 1]? = some (.cells #[.int .u8 m0, .int .u8 m1, .int .u8 m2, .int .u8 m3, .int .u8 m4, .int .u8 m5, .int .u8 m6, .int .u8 m7, .int .u8 m8, .int .u8 m9, .int .u8 m10, .int .u8 m11, .int .u8 m12, .int .u8 m13, .int .u8 m14, .int .u8 m15] 23 (0, 0)) := by
            rw [belE.block _ (by omega), belT.block _ (by omega)]
            exact heap_alloc2_new w _ _
          have cI : Hid (∀ j u, [.int .u8 x0, .int .u8 x1, .int .u8 x2, .int .u8 x3, .int .u8 x4, .int .u8 x5, .int .u8 x6, .int .u8 x7, .int .u8 x8, .int .u8 x9, .int .u8 x10, .int .u8 x11, .int .u8 x12, .int .u8 x13, .int .u8 x14, .int .u8 x15][j]? = some u → wc.cell? ((⟨w.heap.size, 0, none⟩ : Addr).add j) = some u) := cellsB blkI
          have cM : Hid (∀ j u, [.int .u8 m0, .int .u8 m1, .int .u8 m2, .int .u8 m3, .int .u8 m4, .int .u8 m5, .int .u8 m6, .int .u8 m7, .int .u8 m8, .int .u8 m9, .int .u8 m10, .int .u8 m11, .int .u8 m12, .int .u8 m13, .int .u8 m14, .int .u8 m15][j]? = some u → wc.cell? ((⟨w.heap.size + 1, 0, none⟩ : Addr).add j) = some u) := cellsB blkM
          have cT' : Hid (∀ j u, (xs.map (Value.int .u8))[j]? = some u → wc.cell? ((⟨gT, 0, none⟩ : Addr).add j) = some u) := fun j u h => cell_later belE (ownT.cells rfl j u h)
          have cE : Hid (∀ j u, (es.map (Value.int .u8))[j]? = some u → wc.cell? ((⟨wO.heap.size, 0, none⟩ : Addr).add j) = some u) := fun j u h => ownE.cells rfl j u h
          have BI : Hid _ := blkI
          clear blkI blkM
          go_upto_region 15 with (at_make; refine wpList_make_own _ rfl (.const (.int .i64 0)) (.tmp 67) 22 rfl wc.heap.size 5 i0 (.int .u8 0) 1 Ybaf.underlying22 hi hz0 hz1 .i64 .i64 _ (18 + t + 2 + N + 17) rfl rfl (by omega) (by rw [hz2]; omega) (by unfold maxLen; omega) (Nat.le_refl _) ?_; intro w4 own4 gr4)
          have st4 : St wc (18 + t + 2 + N + 17) 0 [] w4 := ⟨(Below.refl _ _).grown gr4 (Nat.le_refl _) (by simp), own4⟩
          clear own4 gr4
          go_upto_region 16 with (at_builtin; refine app_fits rfl (.tmp 69) (.tmp 70) rfl (st4.alloc _) 1 rfl ⟨w4.heap.size, 0, none⟩ 1 1 [.int .u8 16] rfl rfl (cells1 _ _ _) (by simp [Value.oneCell']) (by omega) ?_; intro w5 st5)
          go_upto_region 17 with (at_builtin; refine app_fits rfl (.tmp 72) (.tmp 73) rfl st5 17 rfl ⟨w.heap.size, 0, none⟩ 16 16 [.int .u8 x0, .int .u8 x1, .int .u8 x2, .int .u8 x3, .int .u8 x4, .int .u8 x5, .int .u8 x6, .int .u8 x7, .int .u8 x8, .int .u8 x9, .int .u8 x10, .int .u8 x11, .int .u8 x12, .int .u8 x13, .int .u8 x14, .int .u8 x15] rfl rfl (fun j u h => cell_later st5.1 (cI.out j u h)) (by simp [Value.oneCell']) (by omega) ?_; intro w6 st6)
          clear st5 st4
          go_upto_region 18 with (at_builtin; refine app_fits rfl (.tmp 75) (.tmp 78) rfl (st6.alloc _) 18 rfl ⟨w6.heap.size, 0, none⟩ 1 1 [.int .u8 t] rfl rfl (cells1 _ _ _) (by simp [Value.oneCell']) (by omega) ?_; intro w7 st7)
          clear st6
          go_upto_region 19 with (at_builtin; refine app_fits rfl (.tmp 80) (.tmp 81) rfl st7 (18 + t) rfl ⟨gT, 0, none⟩ t cT (xs.map (Value.int .u8)) rfl (by simpa using hxs.out.1) (fun j u h => cell_later st7.1 (cT'.out j u h)) (ints_oneCell _ _) (by omega) ?_; intro w8 st8)
          clear st7
          go_upto_region 20 with (at_builtin; refine app_fits rfl (.tmp 83) (.tmp 89) rfl (st8.alloc _) (18 + t + 2) rfl ⟨w8.heap.size, 0, none⟩ 2 2 [.int .u8 ((N : Int) / 256), .int .u8 N] rfl rfl (cells2 _ _ _ _) (by simp [Value.oneCell']) (by omega) ?_; intro w9 st9)
          clear st8
          go_upto_region 21 with (at_builtin; refine app_fits rfl (.tmp 91) (.tmp 92) rfl st9 (18 + t + 2 + N) rfl ⟨wO.heap.size, 0, none⟩ N N (es.map (Value.int .u8)) rfl (by simpa using hes.out.1) (fun j u h => cell_later st9.1 (cE.out j u h)) (ints_oneCell _ _) (by omega) ?_; intro w10 st10)
          clear st9
          go_upto_region 22 with (at_builtin; refine app_fits rfl (.tmp 94) (.tmp 95) rfl (st10.alloc _) (18 + t + 2 + N + 1) rfl ⟨w10.heap.size, 0, none⟩ 1 1 [.int .u8 16] rfl rfl (cells1 _ _ _) (by simp [Value.oneCell']) (by omega) ?_; intro w11 st11)
          clear st10
          go_upto_region 23 with (at_builtin; refine app_fits rfl (.tmp 97) (.tmp 98) rfl st11 (18 + t + 2 + N + 17) rfl ⟨w.heap.size + 1, 0, none⟩ 16 16 [.int .u8 m0, .int .u8 m1, .int .u8 m2, .int .u8 m3, .int .u8 m4, .int .u8 m5, .int .u8 m6, .int .u8 m7, .int .u8 m8, .int .u8 m9, .int .u8 m10, .int .u8 m11, .int .u8 m12, .int .u8 m13, .int .u8 m14, .int .u8 m15] rfl rfl (fun j u h => cell_later st11.1 (cM.out j u h)) (by simp [Value.oneCell']) (by omega) ?_; intro w12 st12)
          clear st11
          have hds : Hid (∀ j u, ([.int .u8 16, .int .u8 x0, .int .u8 x1, .int .u8 x2, .int .u8 x3, .int .u8 x4, .int .u8 x5, .int .u8 x6, .int .u8 x7, .int .u8 x8, .int .u8 x9, .int .u8 x10, .int .u8 x11, .int .u8 x12, .int .u8 x13, .int .u8 x14, .int .u8 x15, .int .u8 t] ++ (xs.map (Value.int .u8) ++ ([.int .u8 ((N : Int) / 256), .int .u8 N] ++ (es.map (Value.int .u8) ++ ([.int .u8 16] ++ [.int .u8 m0, .int .u8 m1, .int .u8 m2, .int .u8 m3, .int .u8 m4, .int .u8 m5, .int .u8 m6, .int .u8 m7, .int .u8 m8, .int .u8 m9, .int .u8 m10, .int .u8 m11, .int .u8 m12, .int .u8 m13, .int .u8 m14, .int .u8 m15])))))[j]? = some u → w12.cell? ⟨wc.heap.size, j, none⟩ = some u) := by
            intro j u hj
            have := st12.2.cells rfl j u (by simpa using hj)
            rw [Addr.add_mid, Nat.zero_add] at this
            exact this
          have hxl : (xs.map (Value.int .u8)).length = t := by simpa using hxs.out.1
          have hel : (es.map (Value.int .u8)).length = N := by simpa using hes.out.1
          have d0 : w12.cell? ⟨wc.heap.size, 18 + t, none⟩ = some (.int .u8 ((N : Int) / 256)) := hds.out _ _ (by rw [getAt _ _ 18 t (18 + t) rfl rfl, getAt _ _ t 0 t hxl (by omega)]; rfl)
          have d1 : w12.cell? ⟨wc.heap.size, 18 + t + 1, none⟩ = some (.int .u8 N) := hds.out _ _ (by rw [getAt _ _ 18 (t + 1) (18 + t + 1) rfl (by omega), getAt _ _ t 1 (t + 1) hxl (by omega)]; rfl)
          have d2 : w12.cell? ⟨wc.heap.size, 18 + t + 2 + N, none⟩ = some (.int .u8 16) := hds.out _ _ (by rw [getAt _ _ 18 (t + 2 + N) (18 + t + 2 + N) rfl (by omega), getAt _ _ t (2 + N) (t + 2 + N) hxl (by omega), getAt _ _ 2 N (2 + N) rfl rfl, getAt _ _ N 0 N hel (by omega)]; rfl)
          have CP := parse_ok0 wc.heap.size (18 + t + 2 + N + 17) (18 + t + 2 + N + 17) t N ((N : Int) / 256) N x0 x1 x2 x3 x4 x5 x6 x7 x8 x9 x10 x11 x12 x13 x14 x15 w12 (hds.out 0 _ rfl) (hds.out 1 _ rfl) (hds.out 2 _ rfl) (hds.out 3 _ rfl) (hds.out 4 _ rfl) (hds.out 5 _ rfl) (hds.out 6 _ rfl) (hds.out 7 _ rfl) (hds.out 8 _ rfl) (hds.out 9 _ rfl) (hds.out 10 _ rfl) (hds.out 11 _ rfl) (hds.out 12 _ rfl) (hds.out 13 _ rfl) (hds.out 14 _ rfl) (hds.out 15 _ rfl) (hds.out 16 _ rfl) (hds.out 17 _ rfl) d0 d1 d2 (by omega) (by omega) (by omega) (by omega) (by omega) (by omega) (by omega) (by omega) (by omega) (by have := hN3.out; simp; omega) (by omega) (by omega) (by omega) (by omega) (by omega)
          have CP' : Hid (Calls _ _ _ _ _) := CP
          clear CP d0 d1 d2 hxl hel
          go_wp2_with fail
          refine CP'.out.mono ?_
          rintro e w13 ⟨rfl, bel13⟩
          have bw12 : wc.heap.size ≤ w12.heap.size := st12.1.size
          have bw13 : w12.heap.size ≤ w13.heap.size := bel13.size
          have hB13 : w.heap.size < w13.heap.size := by omega
          have hB13' : w.heap.size < w13.heap.size + 1 := by omega
          have bel12 := st12.1
          have cIw : ∀ j u, [.int .u8 x0, .int .u8 x1, .int .u8 x2, .int .u8 x3, .int .u8 x4, .int .u8 x5, .int .u8 x6, .int .u8 x7, .int .u8 x8, .int .u8 x9, .int .u8 x10, .int .u8 x11, .int .u8 x12, .int .u8 x13, .int .u8 x14, .int .u8 x15][j]? = some u → w13.cell? ⟨w.heap.size, j, none⟩ = some u := fun j u h => by
            have := cell_later bel13 (cell_later bel12 (cI.out j u h))
            rwa [Addr.add_mid, Nat.zero_add] at this
          have i0 : w13.cell? ⟨w.heap.size, 0, none⟩ = some (.int .u8 x0) := cIw 0 _ rfl
          have i1 : w13.cell? ⟨w.heap.size, 1, none⟩ = some (.int .u8 x1) := cIw 1 _ rfl
          have i2 : w13.cell? ⟨w.heap.size, 2, none⟩ = some (.int .u8 x2) := cIw 2 _ rfl
          have i3 : w13.cell? ⟨w.heap.size, 3, none⟩ = some (.int .u8 x3) := cIw 3 _ rfl
          have i4 : w13.cell? ⟨w.heap.size, 4, none⟩ = some (.int .u8 x4) := cIw 4 _ rfl
          have i5 : w13.cell? ⟨w.heap.size, 5, none⟩ = some (.int .u8 x5) := cIw 5 _ rfl
          have i6 : w13.cell? ⟨w.heap.size, 6, none⟩ = some (.int .u8 x6) := cIw 6 _ rfl
          have i7 : w13.cell? ⟨w.heap.size, 7, none⟩ = some (.int .u8 x7) := cIw 7 _ rfl
          have i8 : w13.cell? ⟨w.heap.size, 8, none⟩ = some (.int .u8 x8) := cIw 8 _ rfl
          have i9 : w13.cell? ⟨w.heap.size, 9, none⟩ = some (.int .u8 x9) := cIw 9 _ rfl
          have i10 : w13.cell? ⟨w.heap.size, 10, none⟩ = some (.int .u8 x10) := cIw 10 _ rfl
          have i11 : w13.cell? ⟨w.heap.size, 11, none⟩ = some (.int .u8 x11) := cIw 11 _ rfl
          have i12 : w13.cell? ⟨w.heap.size, 12, none⟩ = some (.int .u8 x12) := cIw 12 _ rfl
          have i13 : w13.cell? ⟨w.heap.size, 13, none⟩ = some (.int .u8 x13) := cIw 13 _ rfl
          have i14 : w13.cell? ⟨w.heap.size, 14, none⟩ = some (.int .u8 x14) := cIw 14 _ rfl
          have i15 : w13.cell? ⟨w.heap.size, 15, none⟩ = some (.int .u8 x15) := cIw 15 _ rfl
          clear cIw
          have BEL : ∀ A M k, Below w12.heap.size w12 (((w13.alloc A).alloc M).drewN k) := fun A M k => below_drewN ((bel13.alloc bel13.size _).alloc (by simp; omega) _) k
          have cD : ∀ A M k j u, ([.int .u8 16, .int .u8 x0, .int .u8 x1, .int .u8 x2, .int .u8 x3, .int .u8 x4, .int .u8 x5, .int .u8 x6, .int .u8 x7, .int .u8 x8, .int .u8 x9, .int .u8 x10, .int .u8 x11, .int .u8 x12, .int .u8 x13, .int .u8 x14, .int .u8 x15, .int .u8 t] ++ (xs.map (Value.int .u8) ++ ([.int .u8 ((N : Int) / 256), .int .u8 N] ++ (es.map (Value.int .u8) ++ ([.int .u8 16] ++ [.int .u8 m0, .int .u8 m1, .int .u8 m2, .int .u8 m3, .int .u8 m4, .int .u8 m5, .int .u8 m6, .int .u8 m7, .int .u8 m8, .int .u8 m9, .int .u8 m10, .int .u8 m11, .int .u8 m12, .int .u8 m13, .int .u8 m14, .int .u8 m15])))))[j]? = some u → (((w13.alloc A).alloc M).drewN k).cell? ⟨wc.heap.size, j, none⟩ = some u :=
            fun A M k j u h => cell_later (BEL A M k) (hds.out j u h)
          have Q1 : Hid (∀ A M k, Calls Ybaf.prog 7 #[.slice (some ⟨wc.heap.size, 18, none⟩) t t, .slice (some ⟨gT, 0, none⟩) t cT] (((w13.alloc A).alloc M).drewN k) fun e w' => e = .returned (.bool true) ∧ w' = ((w13.alloc A).alloc M).drewN k) := fun A M k =>
            equal_same _ _ _ _ _ _ _ xs _ hxs.out.1
              (fun i hi => cD A M k _ _ (by rw [getAt _ _ 18 i (18 + i) rfl rfl]; exact mapAt _ _ _ (by have := hxs.out.1; omega)))
              (fun i hi => by
                have := cell_later (BEL A M k) (cell_later bel12 (cT'.out i _ (mapAt' xs i (by have := hxs.out.1; omega))))
                rwa [Addr.add_mid] at this)
          have Q2 : Hid (∀ A M k, Calls Ybaf.prog 7 #[.slice (some ⟨wc.heap.size, 18 + t + 2, none⟩) N N, .slice (some ⟨wO.heap.size, 0, none⟩) N N] (((w13.alloc A).alloc M).drewN k) fun e w' => e = .returned (.bool true) ∧ w' = ((w13.alloc A).alloc M).drewN k) := fun A M k =>
            equal_same _ _ _ _ _ _ _ es _ hes.out.1
              (fun i hi => cD A M k _ _ (by rw [getAt _ _ 18 (t + 2 + i) (18 + t + 2 + i) rfl (by omega), getAt _ _ t (2 + i) (t + 2 + i) (by simpa using hxs.out.1) (by omega), getAt _ _ 2 i (2 + i) rfl rfl]; exact mapAt _ _ _ (by have := hes.out.1; omega)))
              (fun i hi => by
                have := cell_later (BEL A M k) (cell_later bel12 (cE.out i _ (mapAt' es i (by have := hes.out.1; omega))))
                rwa [Addr.add_mid] at this)
          have Q3 : Hid (∀ A M k, Calls Ybaf.prog 7 #[.slice (some ⟨wc.heap.size, 18 + t + 2 + N + 1, none⟩) 16 16, .slice (some ⟨w.heap.size + 1, 0, none⟩) 16 16] (((w13.alloc A).alloc M).drewN k) fun e w' => e = .returned (.bool true) ∧ w' = ((w13.alloc A).alloc M).drewN k) := fun A M k =>
            equal_same _ _ _ _ _ _ _ [m0, m1, m2, m3, m4, m5, m6, m7, m8, m9, m10, m11, m12, m13, m14, m15] _ rfl
              (fun i hi => cD A M k _ _ (by rw [getAt _ _ 18 (t + 2 + N + 1 + i) (18 + t + 2 + N + 1 + i) rfl (by omega), getAt _ _ t (2 + N + 1 + i) (t + 2 + N + 1 + i) (by simpa using hxs.out.1) (by omega), getAt _ _ 2 (N + 1 + i) (2 + N + 1 + i) rfl (by omega), getAt _ _ N (1 + i) (N + 1 + i) (by simpa using hes.out.1) (by omega), getAt _ _ 1 i (1 + i) rfl rfl]; exact mapAt' [m0, m1, m2, m3, m4, m5, m6, m7, m8, m9, m10, m11, m12, m13, m14, m15] i hi))
              (fun i hi => by
                have := cell_later (BEL A M k) (cell_later bel12 (cM.out i _ (mapAt' [m0, m1, m2, m3, m4, m5, m6, m7, m8, m9, m10, m11, m12, m13, m14, m15] i hi)))
                rwa [Addr.add_mid] at this)
          have Q4 : Hid (∀ A M k, Calls Ybaf.prog 7 #[.slice (some ⟨wc.heap.size, 0, none⟩) (18 + t + 2 + N + 1) (18 + t + 2 + N + 1), .slice (some ⟨wc.heap.size, 0, none⟩) (18 + t + 2 + N + 1) (18 + t + 2 + N + 17)] (((w13.alloc A).alloc M).drewN k) fun e w' => e = .returned (.bool true) ∧ w' = ((w13.alloc A).alloc M).drewN k) := fun A M k => by
            have hl : ([(16 : Int), x0, x1, x2, x3, x4, x5, x6, x7, x8, x9, x10, x11, x12, x13, x14, x15, t] ++ (xs ++ ([(N : Int) / 256, N] ++ (es ++ [16])))).length = 18 + t + 2 + N + 1 := by
              have h1 := hxs.out.1
              have h2 := hes.out.1
              simp only [List.length_append, List.length_cons, List.length_nil, h1, h2]
              omega
            have hc : ∀ i, i < 18 + t + 2 + N + 1 → (((w13.alloc A).alloc M).drewN k).cell? ⟨wc.heap.size, 0 + i, none⟩ = some (.int .u8 (([(16 : Int), x0, x1, x2, x3, x4, x5, x6, x7, x8, x9, x10, x11, x12, x13, x14, x15, t] ++ (xs ++ ([(N : Int) / 256, N] ++ (es ++ [16])))).getD i 0)) := by
              intro i hi
              rw [Nat.zero_add]
              refine cD A M k i _ ?_
              have := mapAt ([(16 : Int), x0, x1, x2, x3, x4, x5, x6, x7, x8, x9, x10, x11, x12, x13, x14, x15, t] ++ (xs ++ ([(N : Int) / 256, N] ++ (es ++ [16])))) [.int .u8 m0, .int .u8 m1, .int .u8 m2, .int .u8 m3, .int .u8 m4, .int .u8 m5, .int .u8 m6, .int .u8 m7, .int .u8 m8, .int .u8 m9, .int .u8 m10, .int .u8 m11, .int .u8 m12, .int .u8 m13, .int .u8 m14, .int .u8 m15] i (by omega)
              rw [← this]
              simp
            exact equal_same _ _ _ _ _ _ _ _ _ hl hc hc
          clear BEL cD
          go_wp2_with fail
          have FIN : Hid (Below w.heap.size w w13) := ((((((Below.refl _ _).alloc (Nat.le_refl _) _).alloc (by simp) _).trans (belT.mono (by omega))).trans (belE.mono (by omega))).trans (bel12.mono (by omega))).trans (bel13.mono (by omega))
          clear bel12 bel13 belE belT ownE ownT st12
          have SN := fun (a : Option Addr) (n c : Nat) (w : World) => Lib.run_eql_slice_nil (P := Ybaf.prog) w 24 _ a n c 0 0 Ybaf.underlying24
          go_quiet (first | (go_at_call_of 7 gT; exact Calls.quiet_of_same (Q1.out _ _ _)) | (go_at_call_of 7 (wO.heap.size); exact Calls.quiet_of_same (Q2.out _ _ _)) | (go_at_call_of 7 (w.heap.size); exact Calls.quiet_of_same (Q3.out _ _ _)) | (go_at_call 7; exact Calls.quiet_of_same (Q4.out _ _ _)))
          go_wp2
          go_ret
          exact ⟨rfl, below_drewN ((FIN.out.alloc (by omega) _).alloc (by simp; omega) _) _⟩

set_option maxHeartbeats 1000000 in
set_option maxRecDepth 100000 in
theorem built_far (x0 x1 x2 x3 x4 x5 x6 x7 x8 x9 x10 x11 x12 x13 x14 x15 : Int) (m0 m1 m2 m3 m4 m5 m6 m7 m8 m9 m10 m11 m12 m13 m14 m15 : Int) (a1 : Option Addr) (n1 c1 : Nat) (bl : Int) (a3 : Option Addr) (n3 c3 : Nat) (w : World) (h : (255 : Int) < n1) :
    Calls Ybaf.prog 4 #[.agg #[.int .u8 x0, .int .u8 x1, .int .u8 x2, .int .u8 x3, .int .u8 x4, .int .u8 x5, .int .u8 x6, .int .u8 x7, .int .u8 x8, .int .u8 x9, .int .u8 x10, .int .u8 x11, .int .u8 x12, .int .u8 x13, .int .u8 x14, .int .u8 x15], .slice a1 n1 c1, .int .u8 bl, .slice a3 n3 c3, .agg #[.int .u8 m0, .int .u8 m1, .int .u8 m2, .int .u8 m3, .int .u8 m4, .int .u8 m5, .int .u8 m6, .int .u8 m7, .int .u8 m8, .int .u8 m9, .int .u8 m10, .int .u8 m11, .int .u8 m12, .int .u8 m13, .int .u8 m14, .int .u8 m15]] w fun e w' => e = .returned (.bool true) ∧ Below w.heap.size w w' := by
  go_enter Ybaf.func4, Ybaf.ntmps4
  go_wp2
  go_ret
  exact ⟨rfl, ((Below.refl _ _).alloc (Nat.le_refl _) _).alloc (by simp) _⟩

set_option maxHeartbeats 1000000 in
set_option maxRecDepth 100000 in
theorem built_far' (x0 x1 x2 x3 x4 x5 x6 x7 x8 x9 x10 x11 x12 x13 x14 x15 : Int) (m0 m1 m2 m3 m4 m5 m6 m7 m8 m9 m10 m11 m12 m13 m14 m15 : Int) (a1 : Option Addr) (n1 c1 : Nat) (bl : Int) (a3 : Option Addr) (n3 c3 : Nat) (w : World) (h0 : (n1 : Int) ≤ 255) (h : (4096 : Int) < n3) :
    Calls Ybaf.prog 4 #[.agg #[.int .u8 x0, .int .u8 x1, .int .u8 x2, .int .u8 x3, .int .u8 x4, .int .u8 x5, .int .u8 x6, .int .u8 x7, .int .u8 x8, .int .u8 x9, .int .u8 x10, .int .u8 x11, .int .u8 x12, .int .u8 x13, .int .u8 x14, .int .u8 x15], .slice a1 n1 c1, .int .u8 bl, .slice a3 n3 c3, .agg #[.int .u8 m0, .int .u8 m1, .int .u8 m2, .int .u8 m3, .int .u8 m4, .int .u8 m5, .int .u8 m6, .int .u8 m7, .int .u8 m8, .int .u8 m9, .int .u8 m10, .int .u8 m11, .int .u8 m12, .int .u8 m13, .int .u8 m14, .int .u8 m15]] w fun e w' => e = .returned (.bool true) ∧ Below w.heap.size w w' := by
  go_enter Ybaf.func4, Ybaf.ntmps4
  go_wp2
  go_ret
  exact ⟨rfl, ((Below.refl _ _).alloc (Nat.le_refl _) _).alloc (by simp) _⟩

theorem built_any (x0 x1 x2 x3 x4 x5 x6 x7 x8 x9 x10 x11 x12 x13 x14 x15 : Int) (m0 m1 m2 m3 m4 m5 m6 m7 m8 m9 m10 m11 m12 m13 m14 m15 : Int) (a1 : Option Addr) (n1 c1 : Nat) (z1 : List Int) (bl : Int) (a3 : Option Addr) (n3 c3 : Nat) (z3 : List Int) (w : World)
    (w1 : IsRow .u8 w a1 n1 c1 z1) (w3 : IsRow .u8 w a3 n3 c3 z3) (wb : 0 ≤ bl) (wb' : bl ≤ 255) :
    Calls Ybaf.prog 4 #[.agg #[.int .u8 x0, .int .u8 x1, .int .u8 x2, .int .u8 x3, .int .u8 x4, .int .u8 x5, .int .u8 x6, .int .u8 x7, .int .u8 x8, .int .u8 x9, .int .u8 x10, .int .u8 x11, .int .u8 x12, .int .u8 x13, .int .u8 x14, .int .u8 x15], .slice a1 n1 c1, .int .u8 bl, .slice a3 n3 c3, .agg #[.int .u8 m0, .int .u8 m1, .int .u8 m2, .int .u8 m3, .int .u8 m4, .int .u8 m5, .int .u8 m6, .int .u8 m7, .int .u8 m8, .int .u8 m9, .int .u8 m10, .int .u8 m11, .int .u8 m12, .int .u8 m13, .int .u8 m14, .int .u8 m15]] w fun e w' => e = .returned (.bool true) ∧ Below w.heap.size w w' := by
  by_cases h1 : n1 ≤ 255
  · by_cases h3 : n3 ≤ 4096
    · exact built_walk x0 x1 x2 x3 x4 x5 x6 x7 x8 x9 x10 x11 x12 x13 x14 x15 m0 m1 m2 m3 m4 m5 m6 m7 m8 m9 m10 m11 m12 m13 m14 m15 a1 n1 c1 z1 bl a3 n3 c3 z3 w w1 w3 wb wb' h1 h3
    · exact built_far' x0 x1 x2 x3 x4 x5 x6 x7 x8 x9 x10 x11 x12 x13 x14 x15 m0 m1 m2 m3 m4 m5 m6 m7 m8 m9 m10 m11 m12 m13 m14 m15 a1 n1 c1 bl a3 n3 c3 w (by omega) (by omega)
  · exact built_far x0 x1 x2 x3 x4 x5 x6 x7 x8 x9 x10 x11 x12 x13 x14 x15 m0 m1 m2 m3 m4 m5 m6 m7 m8 m9 m10 m11 m12 m13 m14 m15 a1 n1 c1 bl a3 n3 c3 w (by omega)
end Go.Proofs.YbulkyliFmt
