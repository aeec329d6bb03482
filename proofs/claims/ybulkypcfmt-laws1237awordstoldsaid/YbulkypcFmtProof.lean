/-
  LawS1237AWordsToldSaid: from the walk to the told and tied card.
-/
import Derived.Test.YbulkypcFmtLaw
import Derived.Test.YbulkypcFmtCards
import Derived.Test.YbulkypcFmtTie
import Derived.Deep.DeepWitnessRowRef
import Derived.Deep.DeepWitnessRef
import Derived.Lib.LaidIn
import Derived.Lib.LaidU8
import Derived.ProofKit
import Derived.OpenShut
import Derived.ShutString
import Derived.SliceStrings
import Derived.ChangeVars
import Derived.ChangeOld
import Derived.Stop.JoinedAt
import Derived.Stop.JoinedTold
import Derived.Stop.LaidErr
import Derived.SevenTiedAt
namespace Go.Proofs.YbulkypcFmt
open Go.ChangeShapes Go.WideShapes Go.ChangeAt Go.RowKit
open Go.ChangeMaps (open_string shut_string)
open Go.Extern.Stop Go.Stop Go.Extern
set_option linter.unusedVariables false

theorem Ybaf.own : ownKnob Ybaf.prog.godebug = none := by kernel_rfl
theorem Ybaf.laidOut : laidOutB Ybaf.pinned.checked.prog = true := by kernel_rfl
theorem Ybaf.cells9 : Ybaf.prog.cellsOf 9 = 1 := by kernel_rfl
theorem Ybaf.cells50 : Ybaf.prog.cellsOf 50 = 5 := by kernel_rfl
theorem Ybaf.stops : Ybaf.pinned.checked.prog.stops = ["fmt.Sprintf"] := by kernel_rfl
theorem Ybaf.stopKnobs : Ybaf.pinned.checked.prog.stopKnobs = [] := by kernel_rfl
theorem Ybaf.quiet (os : Os) : Stop.quiet Ybaf.pinned.checked.prog os := by
  intro k hk
  rw [Ybaf.stopKnobs] at hk
  cases hk

noncomputable def laidWorld (os : Os) : World :=
  let w0 := World.settled Ybaf.prog os
  let put (h : Array Obj) (g : Nat) (cs : Array Value) : Array Obj := h.modify g fun
    | .cells _ t frozen => .cells cs t frozen
    | o => o
  let h0 := put w0.heap 0 #[.string ⟨#[]⟩, .string ⟨#[103, 101, 116]⟩, .string ⟨#[112, 117, 116]⟩, .string ⟨#[97, 112, 112, 101, 110, 100]⟩, .string ⟨#[100, 101, 108, 101, 116, 101]⟩]
  let h1 := put h0 1 (([1, 10, 100, 1000, 10000, 100000, 1000000, 10000000, 100000000, 1000000000, 10000000000, 100000000000, 1000000000000, 10000000000000, 100000000000000, 1000000000000000, 10000000000000000, 100000000000000000, 1000000000000000000, 10000000000000000000] : List Int).map (Value.int .u64)).toArray
  let h2 := put h1 2 (([0, 1, 28, 2, 29, 14, 24, 3, 30, 22, 20, 15, 25, 17, 4, 8, 31, 27, 13, 23, 21, 19, 16, 7, 26, 12, 18, 6, 11, 5, 10, 9] : List Int).map (Value.int .u8)).toArray
  let h3 := put h2 3 (([0, 1, 56, 2, 57, 49, 28, 3, 61, 58, 42, 50, 38, 29, 17, 4, 62, 47, 59, 36, 45, 43, 51, 22, 53, 39, 33, 30, 24, 18, 12, 5, 63, 55, 48, 27, 60, 41, 37, 16, 46, 35, 44, 21, 52, 32, 23, 11, 54, 26, 40, 15, 34, 20, 31, 10, 25, 14, 19, 9, 13, 8, 7, 6] : List Int).map (Value.int .u8)).toArray
  { w0 with heap := h3 }

set_option maxRecDepth 1000000 in
theorem laid_met (os : Os) (args : Array Value) : laidMet Ybaf.prog Rows.lawS1237AWordsRow.laid ((laidWorld os).forCall (fun _ _ => 0) ⟨#[], args, []⟩).memory :=
  (Go.LaidIn.of_run (l := Rows.lawS1237AWordsRow.laid) [0, 1, 2, 3] 10 (by kernel_rfl) (by kernel_rfl) (by kernel_rfl) (by kernel_rfl)).met

theorem witness_row (os : Os) {H : Type} (enc : TypeId × Value → H) :
    (OpenSpec.ofChange Rows.lawS1237AWordsSpec).preRow enc Ybaf.prog Ybaf.f3 Rows.lawS1237AWordsRow.domain false Rows.lawS1237AWordsRow.laid ((laidWorld os).forCall (fun _ _ => 0) ⟨#[], #[.slice none 0 0, .int .u8 0, .string ⟨#[]⟩, .string ⟨#[]⟩, .string ⟨#[]⟩], []⟩).memory #[.slice none 0 0, .int .u8 0, .string ⟨#[]⟩, .string ⟨#[]⟩, .string ⟨#[]⟩] := by
  have hw : (DataW.whole enc Ybaf.prog ((laidWorld os).forCall (fun _ _ => 0) ⟨#[], #[.slice none 0 0, .int .u8 0, .string ⟨#[]⟩, .string ⟨#[]⟩, .string ⟨#[]⟩], []⟩).memory Ybaf.f3.params.toList Rows.lawS1237AWordsSpec.vars false (#[.slice none 0 0, .int .u8 0, .string ⟨#[]⟩, .string ⟨#[]⟩, .string ⟨#[]⟩] : Array Value).toList 8).map (fun x => (x.1, x.2.1)) =
      some ([.nil, .lit (.int .u8 0), .lit (.string []), .lit (.string []), .lit (.string [])], [Rows.laid_example_com_sojourn_sojourn_replica_opNames]) := by kernel_rfl
  obtain ⟨⟨x1, x2, x3⟩, hx, hx1⟩ := Option.map_eq_some_iff.1 hw
  simp only [Prod.mk.injEq] at hx1
  obtain ⟨rfl, rfl⟩ := hx1
  exact OpenSpec.preRow_of_cond 8 hx (by kernel_rfl) (fun k hk => by cases hk) (by kernel_rfl) (laid_met os _)

/-- opNames, off 'laid' -/
theorem names_of {W : World} (h : laidMet Ybaf.prog Rows.lawS1237AWordsRow.laid W) : ∀ i, i < 5 → W.cell? ⟨0, i, none⟩ = some (.string (nmB i)) := by
  obtain ⟨ps, ⟨_, _, _, _, _, _, _, _, _, _, ⟨_, _, _, _, _, _, _, _, _, _, ⟨_, _, _, _, _, _, _, _, _, _, ⟨g, t, cs, fuel, p, q, hg, ht, hv, htr, _, _⟩, _⟩, _⟩, _⟩, _⟩ := h
  have hg0 : g = 0 := by
    have : Ybaf.prog.globalNamed "example.com/sojourn/sojourn/replica.opNames" = some 0 := by kernel_rfl
    exact Option.some.inj (hg.symm.trans this)
  subst hg0
  have ht0 : t = 50 := by
    have : (Ybaf.prog.globals[0]?).map (·.type) = some 50 := by kernel_rfl
    exact Option.some.inj (ht.symm.trans this)
  subst ht0
  obtain ⟨xs, m, _, hx, hl, hn, hel⟩ := DataW.trod_array Ybaf.underlying50 htr
  rw [Ybaf.cells50] at hl
  have hxs : xs.map (·.1) = [.lit (.string []), .lit (.string [103, 101, 116]), .lit (.string [112, 117, 116]), .lit (.string [97, 112, 112, 101, 110, 100]), .lit (.string [100, 101, 108, 101, 116, 101])] := by
    have := congrArg Prod.fst hx
    simp [Rows.laid_example_com_sojourn_sojourn_replica_opNames] at this
    exact this.symm
  have hcell : ∀ i, W.cell? ⟨0, i, none⟩ = cs[i]? := by
    intro i
    have hg' : Ybaf.prog.globalNamed "example.com/sojourn/sojourn/replica.opNames" = some 0 := hg
    unfold World.var? at hv
    rw [hg'] at hv
    simp only [Option.bind_some] at hv
    split at hv
    · rename_i cs' ty fz hb
      simp at hv
      subst hv
      simp [World.cell?, hb]
    · cases hv
  intro i hi
  have h1 := hel i hi
  rw [Ybaf.cells9, Nat.mul_one] at h1
  have hxi : (xs.map (·.1))[i]? = some (.lit (.string (nmL i))) := by
    rw [hxs]
    match i, hi with
    | 0, _ | 1, _ | 2, _ | 3, _ | 4, _ => rfl
  rw [List.getElem?_map] at hxi
  obtain ⟨y, hy, hy1⟩ := Option.map_eq_some_iff.1 hxi
  rw [hy] at h1
  obtain ⟨s, hs, hsx, _⟩ := DataW.trod_string Ybaf.underlying9 h1
  rw [hcell]
  have h2 : ((cs.toList.drop i).take 1)[0]? = some (.string s) := by rw [hs]; rfl
  have h3 : cs[i]? = some (.string s) := by simpa [List.getElem?_take, List.getElem?_drop] using h2
  rw [h3]
  rw [hsx] at hy1
  simp at hy1
  congr 2
  unfold nmB
  cases s with
  | mk d => congr 1; rw [← hy1]

theorem var_keep {W W' : World} {g : Nat} {n : String} {cs : Array Value} (hg : Ybaf.prog.globalNamed n = some g) (hb : W'.heap[g]? = W.heap[g]?) (h : W.var? Ybaf.prog n = some cs) : W'.var? Ybaf.prog n = some cs := by
  unfold World.var? at h ⊢
  rw [hg] at h ⊢
  simp only [Option.bind_some] at h ⊢
  rw [hb]
  exact h
theorem open_strs {H : Type} {enc : TypeId × Value → H} {W : World} {spare : Nat → Bool} {held : Bool} {fuel : Nat} {a : Option Addr} {n c : Nat} {x : DataW H × List MemPlace} (h : DataW.trod enc Ybaf.prog W 0 spare held fuel 22 [.slice a n c] = some x) :
    ∃ S, Strs W W.heap.size (.slice a n c) n S := by
  rcases open_strings Ybaf.underlying22 Ybaf.underlying9 Ybaf.cells9 h with ⟨hcs, _⟩ | ⟨ad, len, cap, zs, hcs, _, hl, hm, hz, _, hcell, hs⟩
  · simp at hcs
    obtain ⟨rfl, rfl, rfl⟩ := hcs
    exact ⟨fun _ => ByteArray.empty, ⟨_, _, rfl, Nat.le_refl _, fun h => absurd h (Nat.lt_irrefl _)⟩⟩
  · simp at hcs
    obtain ⟨rfl, rfl, rfl⟩ := hcs
    have hlm : n ≤ zs.length := by rw [hz]; split <;> omega
    refine ⟨fun i => zs.getD i ByteArray.empty, ⟨_, _, rfl, hl, fun hp => ?_⟩⟩
    obtain ⟨b, o, sp⟩ := ad
    have hsp : sp = none := by simpa [Addr.add] using World.cell?_spot (hcell 0 (by omega))
    subst hsp
    refine ⟨b, o, rfl, World.block_lt_of_cell? W _ (hcell 0 (by omega)), fun i hi => ?_⟩
    have h2 := hcell i (by omega)
    have e : ((⟨b, o, none⟩ : Addr).add i) = ⟨b, o + i, none⟩ := by
      unfold Addr.add
      by_cases h : i = 0
      · subst h; simp
      · simp [h]
    rw [e] at h2
    exact h2

theorem law_any (F : Interp) (a : Option Addr) (n c : Nat) (S : Nat → ByteArray) (x : Int) (key value origin : ByteArray) (w : World) (h0 : 0 ≤ x) (h1 : x ≤ 255) (hG : Good F w) (hS : Strs w w.heap.size (.slice a n c) n S) :
    Calls Ybaf.prog 3 #[.slice a n c, .int .u8 x, .string key, .string value, .string origin] w fun e w' => e = .returned (.bool true) ∧ Below w.heap.size w w' := by
  by_cases hn : 1024 < n
  · exact law_far a n c x key value origin w hn
  rcases (show x = 1 ∨ x = 2 ∨ x = 3 ∨ x = 4 ∨ ¬ (1 ≤ x ∧ x ≤ 4) from by omega) with rfl | rfl | rfl | rfl | h
  · exact law_1 F a n c S key value origin w (by omega) hG hS
  · exact law_2 F a n c S key value origin w (by omega) hG hS
  · exact law_3 F a n c S key value origin w (by omega) hG hS
  · exact law_4 F a n c S key value origin w (by omega) hG hS
  · exact law_o F a n c S x h0 h1 h key value origin w (by omega) hG hS

set_option maxRecDepth 100000 in
theorem lifted (os : Os) (started : os.Started) (H : Type) (enc : TypeId × Value → H) :
    ReturnsInTold none {} Ybaf.checked os 3 .any Input.okWide ((OpenSpec.ofChange Rows.lawS1237AWordsSpec).preRow enc Ybaf.prog Ybaf.f3 Rows.lawS1237AWordsRow.domain false Rows.lawS1237AWordsRow.laid) (fun F => ((OpenSpec.ofChange Rows.lawS1237AWordsSpec).at F).post enc Ybaf.prog Ybaf.f3 false true false false) (aloneAtReturn Ybaf.prog) nothingAlways := by
  refine returnsInTold_of_row (C := Ybaf.checked) (s := OpenSpec.ofChange Rows.lawS1237AWordsSpec) (by kernel_rfl) Ybaf.own started (by kernel_rfl) Ybaf.func3
    (OpenSpec.witness_stopped_atRef (enc := enc) (C := Ybaf.checked) false (laidWorld os) #[.slice none 0 0, .int .u8 0, .string ⟨#[]⟩, .string ⟨#[]⟩, .string ⟨#[]⟩] rfl (by kernel_rfl) (by kernel_rfl) (by kernel_rfl) (witness_row os enc)) ?_
  intro F W base args ds gs before _ hF hval0 hW _ _ _ hL _
  have hval : ∀ (j : Nat) t v, Ybaf.f3.params[j]? = some t → args[j]? = some v → Value.okWide Ybaf.prog W .any base t v := hval0
  have hW' := hW
  obtain ⟨p, q, hA0, hV, rfl, _, _⟩ := hW
  have hA : DataW.TrodAll enc Ybaf.prog W 0 (fun _ => true) true Ybaf.f3.params.toList args.toList ds p := hA0
  rw [Ybaf.params3] at hA hval
  obtain ⟨v0, vs0, d0, ds0, p0, q0, hargs, rfl, rfl, h0, r0⟩ := trodAll_cons hA
  obtain ⟨v1, vs1, d1, ds1, p1, q1, rfl, rfl, rfl, h1, r1⟩ := trodAll_cons r0
  obtain ⟨v2, vs2, d2, ds2, p2, q2, rfl, rfl, rfl, h2, r2⟩ := trodAll_cons r1
  obtain ⟨v3, vs3, d3, ds3, p3, q3, rfl, rfl, rfl, h3, r3⟩ := trodAll_cons r2
  obtain ⟨v4, vs4, d4, ds4, p4, q4, rfl, rfl, rfl, h4, r4⟩ := trodAll_cons r3
  obtain ⟨rfl, rfl, rfl⟩ := trodAll_nil r4
  obtain rfl : args = #[v0, v1, v2, v3, v4] := by cases args; simp_all
  obtain ⟨g, t, cs, fuel, dv, pv, rfl, hg, ht, hvar, htr, rfl⟩ := trodVars_one hV
  have k0 := h0
  have k1 := h1
  have k2 := h2
  have k3 := h3
  have k4 := h4
  have lt0 : ∀ x ∈ p0, x.block < W.heap.size := by obtain ⟨m, hm⟩ := k0; exact DataW.trod_lt m _ _ _ hm
  have lt1 : ∀ x ∈ p1, x.block < W.heap.size := by obtain ⟨m, hm⟩ := k1; exact DataW.trod_lt m _ _ _ hm
  have lt2 : ∀ x ∈ p2, x.block < W.heap.size := by obtain ⟨m, hm⟩ := k2; exact DataW.trod_lt m _ _ _ hm
  have lt3 : ∀ x ∈ p3, x.block < W.heap.size := by obtain ⟨m, hm⟩ := k3; exact DataW.trod_lt m _ _ _ hm
  have lt4 : ∀ x ∈ p4, x.block < W.heap.size := by obtain ⟨m, hm⟩ := k4; exact DataW.trod_lt m _ _ _ hm
  have ltv : ∀ x ∈ pv, x.block < W.heap.size := DataW.trod_lt fuel _ _ _ htr
  obtain ⟨a0, n0, c0, rfl⟩ := okWide_slice Ybaf.underlying22 (hval 0 22 v0 rfl rfl)
  obtain ⟨x, rfl, rfl, rfl, wx⟩ := open_int Ybaf.underlying5 (hval 1 5 v1 rfl rfl) h1
  obtain ⟨s2, rfl, rfl, rfl, w2⟩ := open_string Ybaf.underlying9 (hval 2 9 v2 rfl rfl) h2
  obtain ⟨s3, rfl, rfl, rfl, w3⟩ := open_string Ybaf.underlying9 (hval 3 9 v3 rfl rfl) h3
  obtain ⟨s4, rfl, rfl, rfl, w4⟩ := open_string Ybaf.underlying9 (hval 4 9 v4 rfl rfl) h4
  obtain ⟨f0, hf0⟩ := h0
  obtain ⟨S, hS⟩ := open_strs hf0
  have hx : 0 ≤ x ∧ x ≤ 255 := by
    simp [Lit.wf, show IntKind.u8.min = 0 from rfl, show IntKind.u8.max = 255 from rfl] at wx
    exact wx
  have hnames := names_of (W := W) hL
  have hG : Good F.told W := ⟨hF, by have := World.block_lt_of_cell? W _ (hnames 0 (by decide)); exact Nat.lt_of_le_of_lt (Nat.zero_le _) this, hnames⟩
  clear hA0 hval0
  refine (law_any F.told a0 n0 c0 S x s2 s3 s4 W hx.1 hx.2 hG hS).mono fun e W' ⟨he, bel⟩ => ?_
  subst he
  have hg0 : g = 0 := by
    have : Ybaf.prog.globalNamed "example.com/sojourn/sojourn/replica.opNames" = some 0 := by kernel_rfl
    exact Option.some.inj (hg.symm.trans this)
  subst hg0
  have ht0 : t = 50 := by
    have : (Ybaf.prog.globals[0]?).map (·.type) = some 50 := by kernel_rfl
    exact Option.some.inj (ht.symm.trans this)
  subst ht0
  have hvar' : W'.var? Ybaf.prog "example.com/sojourn/sojourn/replica.opNames" = some cs := var_keep (g := 0) (by kernel_rfl) (bel.block 0 hG.2.1) hvar
  obtain ⟨fv, hfv⟩ : DataW.Trod enc Ybaf.prog W' 0 (fun b => decide (b < W.heap.size)) true 50 (.agg cs) dv pv :=
    Below.trod Ybaf.laidOut (by kernel_rfl) (of_decide_eq_true (by kernel_rfl)) ⟨fuel, htr⟩ bel ltv
  exact ⟨_, rfl, _, _, _, [], _, _, hW', trodAll_mk1 (shut_bool Ybaf.underlying4 _),
    (trodAll_cons_mk (Below.trod Ybaf.laidOut (by kernel_rfl) (of_decide_eq_true (by kernel_rfl)) k0 bel lt0) (trodAll_cons_mk (Below.trod Ybaf.laidOut (by kernel_rfl) (of_decide_eq_true (by kernel_rfl)) k1 bel lt1) (trodAll_cons_mk (Below.trod Ybaf.laidOut (by kernel_rfl) (of_decide_eq_true (by kernel_rfl)) k2 bel lt2) (trodAll_cons_mk (Below.trod Ybaf.laidOut (by kernel_rfl) (of_decide_eq_true (by kernel_rfl)) k3 bel lt3) (trodAll_cons_mk (Below.trod Ybaf.laidOut (by kernel_rfl) (of_decide_eq_true (by kernel_rfl)) k4 bel lt4) trodAll_mk0))))),
    ⟨0, 50, cs, fv, pv, [], hg, ht, hvar', hfv, rfl, (List.append_nil _).symm⟩, bel.frame _, fun h => by cases h⟩

/-- THE STATEMENT. -/
theorem words_told : Rows.LawS1237AWordsToldSaid :=
  Claim7.holds_of_told_tied_any_at .later (c := Rows.lawS1237AWordsRow) 3 Ybaf.f3 "fmt.Sprintf" [] [] _ _ _ _ _ (by kernel_rfl) rfl rfl rfl Ybaf.laidOut (by kernel_rfl) rfl ⟨rfl, rfl, rfl, rfl, rfl, rfl, rfl⟩ rfl rfl (by kernel_rfl) (by kernel_rfl) Ybaf.func3 (by kernel_rfl)
    (of_decide_eq_true (by kernel_rfl)) (by unfold Func.isWrapper; first | (rw [if_pos (by decide +kernel)]; kernel_rfl) | (rw [if_neg (by decide +kernel)]; exact ⟨rfl, rfl⟩)) Ybaf.stops.symm rfl Ybaf.stopKnobs.symm (by kernel_rfl)
    (by kernel_rfl) (by kernel_rfl) (by kernel_rfl) (by kernel_rfl) (by kernel_rfl) (by kernel_rfl) (by kernel_rfl) (by kernel_rfl) (by kernel_rfl) rfl (by kernel_rfl) rfl rfl
    rfl rfl
    rfl (by kernel_rfl) (by kernel_rfl) (by kernel_rfl) (by decide) (by kernel_rfl) lawS1237AWords_row_tie
    (OpenClaim.moreEntering_of (by kernel_rfl) (by kernel_rfl) (by kernel_rfl) (by kernel_rfl) (by kernel_rfl) (by kernel_rfl) (by kernel_rfl) (by kernel_rfl) (by kernel_rfl) (by kernel_rfl))
    ⟨_, WideRow.started_initial, Ybaf.quiet _⟩
    (fun os started _ H enc _ => lifted os started H enc)
#print axioms words_told
end Go.Proofs.YbulkypcFmt
