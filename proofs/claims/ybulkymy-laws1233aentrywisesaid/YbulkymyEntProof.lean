/-
  LawS1233AEntrywise: the statement.
-/
import Derived.Test.YbulkymyEnt
import Derived.Test.YbulkymyRows
import Derived.WalkKit
import Derived.ProofKit
import Derived.SizedLaws
import Derived.OpenShut
import Derived.ShutString
import Derived.ChangeOld
import Derived.Below
import Derived.Deep.SlicePairs
namespace Go.Proofs.Ybulkymy
open Go.ChangeShapes Go.WideShapes Go.ChangeAt Go.RowKit Go.Deep

theorem own : ownKnob Yba.prog.godebug = none := by kernel_rfl
theorem laidOut : laidOutB Yba.prog = true := by kernel_rfl
theorem Yba.cells23 : Yba.prog.cellsOf 23 = 1 := by kernel_rfl
theorem Yba.cells32 : Yba.prog.cellsOf 32 = 2 := by kernel_rfl
theorem Yba.cells5 : Yba.prog.cellsOf 5 = 1 := by kernel_rfl
theorem Yba.cells30 : Yba.prog.cellsOf 30 = 1 := by kernel_rfl
theorem Yba.bytes32 : Yba.prog.bytesOf 32 = 16 := by kernel_rfl
theorem reach_eq : reachBytes = 140737488351232 := rfl

theorem weightsAll_mem {H : Type} {P : Program} {e : TypeId} : ∀ {l : List (DataW H)} {d : DataW H}, d ∈ l → ∀ n ∈ d.weights P e, n ∈ DataW.weightsAll P e l
  | d' :: r, d, hd, n, hn => by
    simp only [DataW.weightsAll, List.mem_append]
    rcases List.mem_cons.1 hd with rfl | h
    · exact Or.inl hn
    · exact Or.inr (weightsAll_mem h n hn)
theorem sized_inner {H : Type} {P : Program} {ts : List TypeId} {ds : List (DataW H)} (h : (DataW.weightsEach P ts ds).all (· ≤ reachBytes) = true) {j : Nat} {t e q : TypeId} {elems spare e' sp' : List (DataW H)}
    (ht : ts[j]? = some t) (hd : ds[j]? = some (.slice elems spare)) (hu : P.underlying t = some (.slice e)) (hu2 : P.underlying e = some (.slice q)) (hx : DataW.slice e' sp' ∈ elems) : (e'.length + sp'.length) * P.bytesOf q ≤ reachBytes := by
  refine of_decide_eq_true (List.all_eq_true.1 h _ (DataW.weights_mem_each ht hd _ ?_))
  simp only [DataW.weights, hu, List.mem_cons, List.mem_append]
  exact Or.inr (Or.inl (weightsAll_mem hx _ (by simp [DataW.weights, hu2])))

theorem u8_wf {x : Int} (h : (Lit.int .u8 x).wf = true) : 0 ≤ x ∧ x ≤ 255 := by
  simp [Lit.wf, show IntKind.u8.min = 0 from rfl, show IntKind.u8.max = 255 from rfl] at h
  exact h
/-- one list of entries, opened -/
theorem open_ents {H : Type} {enc : TypeId × Value → H} {W : World} {spare : Nat → Bool} {held : Bool} {fuel : Nat} {v : Value} {x : DataW H × List MemPlace} (h : DataW.trod enc Yba.prog W 0 spare held fuel 23 [v] = some x) :
    ∃ q : Option Addr × Nat × Nat × (Nat → Int) × (Nat → Int), v = .slice q.1 q.2.1 q.2.2.1 ∧ Ents W q.1 q.2.1 q.2.2.1 q.2.2.2.1 q.2.2.2.2 ∧ (q.2.1 = 0 ∨ ∃ es sp, x.1 = .slice es sp ∧ es.length = q.2.1) := by
  rcases open_slice_pairs Yba.underlying23 Yba.underlying32 Yba.cells32 rfl rfl Yba.cells5 Yba.cells30 h with ⟨hcs, _⟩ | ⟨a, len, cap, m, n, V0, V1, D0, D1, P0, P1, hcs, _, hl, hm, hmm, hx, hc⟩
  · simp at hcs
    subst hcs
    exact ⟨(none, 0, 0, fun _ => 0, fun _ => 0), rfl, ⟨Nat.le_refl _, fun h => absurd h (Nat.lt_irrefl _)⟩, .inl rfl⟩
  · simp at hcs
    subst hcs
    have hlm : len ≤ m := by rw [hmm]; split <;> omega
    refine ⟨(some a, len, cap, fun i => intOf (V0 i), fun i => intOf (V1 i)), rfl, ⟨hl, fun (hp : 0 < len) => ?_⟩, .inr ⟨_, _, by rw [hx], by simp⟩⟩
    obtain ⟨ab, ao, asp⟩ := a
    have has : asp = none := by simpa [Addr.add] using World.cell?_spot (hc 0 (by omega)).1
    subst has
    refine ⟨ab, ao, rfl, fun i (hi : i < len) => ?_⟩
    obtain ⟨c0, c1, t0, t1⟩ := hc i (by omega)
    obtain ⟨n0, e0, _, w0⟩ := DataW.trod_int Yba.underlying5 t0
    obtain ⟨n1, e1, _, w1⟩ := DataW.trod_int Yba.underlying30 t1
    simp at e0 e1
    rw [add_plain] at c0 c1
    simp only [e0, e1, intOf] at c0 c1 ⊢
    refine ⟨c0, by rwa [← Nat.add_assoc] at c1, ?_, ?_, w1⟩
    · exact (u8_wf w0).1
    · exact (u8_wf w0).2

set_option maxRecDepth 100000 in
theorem ent_lifted (os : Os) (started : os.Started) (H : Type) (enc : TypeId × Value → H) :
    ReturnsInHanded {} Yba.checked os 3 .any (Rows.lawS1233AEntrywiseSpec.pre6 enc Yba.prog Yba.f3 Rows.lawS1233AEntrywiseRow.domain false) (Rows.lawS1233AEntrywiseSpec.post enc Yba.prog Yba.f3 false true false false) := by
  refine returnsInHanded_of_change_sized (C := Yba.checked) own started (by kernel_rfl) Yba.func3
    (ChangeSpec.witness6 (enc := enc) (C := Yba.checked) false ⟨#[], #[.slice none 0 0], []⟩ 8 (by kernel_rfl) (by kernel_rfl) (by kernel_rfl) (by kernel_rfl)) ?_
  intro W base args ds gs before hval0 hW _ hsz0 _
  have hsz : (DataW.weightsEach Yba.prog (Yba.f3.params.toList ++ Rows.lawS1233AEntrywiseSpec.plain.varTypes Yba.prog) (ds ++ gs)).all (· ≤ reachBytes) = true := hsz0
  clear hsz0
  have hval : ∀ (j : Nat) t v, Yba.f3.params[j]? = some t → args[j]? = some v → Value.okWide Yba.prog W .any base t v := hval0
  have hW' := hW
  obtain ⟨p, q, hA0, hV, rfl, hfz, _⟩ := hW
  have hA : DataW.TrodAll enc Yba.prog W 0 (fun _ => true) true Yba.f3.params.toList args.toList ds p := hA0
  rw [Yba.params3] at hA hval hsz
  obtain ⟨v0, d0, rfl, rfl, h0⟩ := trodAll_one hA
  obtain ⟨rfl, rfl⟩ := trodVars_none hV
  obtain ⟨a0, len, cap, rfl⟩ := okWide_slice Yba.underlying22 (hval 0 22 v0 rfl rfl)
  have k0 := h0
  have lt0 : ∀ x ∈ p, x.block < W.heap.size := by obtain ⟨m, hm⟩ := k0; exact DataW.trod_lt m _ _ _ hm
  obtain ⟨fuel, hf⟩ := h0
  clear hA0 hval0 hA
  simp only [List.append_nil] at hsz
  have key : Calls Yba.prog 3 #[.slice a0 len cap] W fun e w' => e = .returned (.bool true) ∧ Below W.heap.size W w' := by
    by_cases hfar : 1024 < len
    · exact ent_far a0 len cap W hfar
    rcases open_slice1 Yba.underlying22 Yba.cells23 hf with ⟨hcs, hx⟩ | ⟨a, len', cap', m, n, V, D, Pl, hcs, _, hl, hm, hmm, hx, hrows⟩
    · simp [Value.cells] at hcs
      obtain ⟨rfl, rfl, rfl⟩ := hcs
      exact ent_any none 0 0 0 0 (fun h => absurd h (Nat.lt_irrefl _)) (fun _ => none) (fun _ => 0) (fun _ => 0) (fun _ _ => 0) (fun _ _ => 0) W (by omega) (Nat.le_refl _) (fun i hi => absurd hi (Nat.not_lt_zero _))
    · simp [Value.cells] at hcs
      obtain ⟨rfl, rfl, rfl⟩ := hcs
      simp only [Prod.mk.injEq] at hx
      obtain ⟨rfl, rfl⟩ := hx
      have hlm : len ≤ m := by rw [hmm]; split <;> omega
      obtain ⟨Q, hQ⟩ := choose_lt (n := len) fun i hi => open_ents (hrows i (by omega)).2
      obtain ⟨gb, go, gs⟩ := a
      have hLb : ∀ i, i < len → (Q i).2.1 ≤ 140737488355328 := fun i hi => by
        rcases (hQ i hi).2.2 with h | ⟨es, sp, h1, h2⟩
        · omega
        · have hin := sized_inner hsz (j := 0) (t := 22) (e := 23) (q := 32) rfl rfl Yba.underlying22 Yba.underlying23 (e' := es) (sp' := sp) (List.mem_map.2 ⟨i, List.mem_range.2 hi, h1⟩)
          rw [Yba.bytes32, reach_eq, h2] at hin
          omega
      have hgs : 0 < len → gs = none := fun hp => by simpa [Addr.add] using World.cell?_spot (hrows 0 (by omega)).1
      refine ent_any (some ⟨gb, go, gs⟩) gb go len cap (fun hp => by rw [hgs hp]) (fun i => (Q i).1) (fun i => (Q i).2.1) (fun i => (Q i).2.2.1) (fun i => (Q i).2.2.2.1) (fun i => (Q i).2.2.2.2) W (by omega) hl fun i hi => ⟨?_, (hQ i hi).2.1, hLb i hi⟩
      have hc := (hrows i (by omega)).1
      rw [hgs (by omega), add_plain, (hQ i hi).1] at hc
      exact hc
  refine key.mono fun e W' ⟨he, bel⟩ => ?_
  subst he
  exact ⟨_, rfl, _, _, _, [], _, [], hW', trodAll_mk1 (shut_bool Yba.underlying4 _), trodAll_mk1 (Below.trod laidOut (by kernel_rfl) (of_decide_eq_true (by kernel_rfl)) k0 bel lt0), rfl, bel.frame _, fun h => by cases h⟩

theorem entrywise : Rows.LawS1233AEntrywiseSaid :=
  OpenClaim.holds_of_wide 3 Yba.f3 rfl rfl rfl rfl rfl rfl rfl ⟨rfl, rfl, rfl, rfl, rfl⟩ rfl rfl rfl rfl rfl (by kernel_rfl) Yba.func3 (by kernel_rfl)
    (of_decide_eq_true (by kernel_rfl)) (by unfold Func.isWrapper; first | (rw [if_pos (by decide +kernel)]; kernel_rfl) | (rw [if_neg (by decide +kernel)]; exact ⟨rfl, rfl⟩))
    (fun os started H enc _ => ent_lifted os started H enc)
#print axioms entrywise
end Go.Proofs.Ybulkymy
