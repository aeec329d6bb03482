/-
  LawS1233CModel: what the walks share: zzs1233cat; the map of Retired; rows of strings.
-/
import Derived.Test.YbulkymyPlain
import Derived.Test.YbulkymyShelf
import Derived.Deep.LoopGhost
import Derived.Deep.RegionWith
import Derived.Deep.DeepCutAuto
import Derived.Maps.AppendAt
import Derived.Below
namespace Go.Proofs.Ybulkymy
open Go.RowKit Go.Maps

/-- a slice of 64-bit numbers as it lies, below a bound -/
def Nums (w : World) (B : Nat) (a : Option Addr) (n c : Nat) (Z : Nat → Int) : Prop :=
  n ≤ c ∧ (0 < n → ∃ b o, a = some ⟨b, o, none⟩ ∧ b < B ∧ ∀ i, i < n → w.cell? ⟨b, o + i, none⟩ = some (.int .u64 (Z i)))
theorem Nums.later {w W : World} {B : Nat} {a : Option Addr} {n c : Nat} {Z : Nat → Int} (h : Nums w B a n c Z) (hb : Below B w W) : Nums W B a n c Z := by
  refine ⟨h.1, fun hp => ?_⟩
  obtain ⟨b, o, rfl, hlt, hc⟩ := h.2 hp
  exact ⟨b, o, rfl, hlt, fun i hi => (hb.cell (p := ⟨b, o + i, none⟩) hlt).trans (hc i hi)⟩
theorem Nums.mono {w : World} {B B' : Nat} {a : Option Addr} {n c : Nat} {Z : Nat → Int} (h : Nums w B a n c Z) (hb : B ≤ B') : Nums w B' a n c Z := by
  refine ⟨h.1, fun hp => ?_⟩
  obtain ⟨b, o, rfl, hlt, hc⟩ := h.2 hp
  exact ⟨b, o, rfl, by omega, hc⟩
/-- a slice of strings as it lies, below a bound -/
def Strs (w : World) (B : Nat) (v : Value) (n : Nat) (S : Nat → ByteArray) : Prop :=
  ∃ a c, v = .slice a n c ∧ n ≤ c ∧ (0 < n → ∃ b o, a = some ⟨b, o, none⟩ ∧ b < B ∧ ∀ i, i < n → w.cell? ⟨b, o + i, none⟩ = some (.string (S i)))
theorem Strs.later {w W : World} {B : Nat} {v : Value} {n : Nat} {S : Nat → ByteArray} (h : Strs w B v n S) (hb : Below B w W) : Strs W B v n S := by
  obtain ⟨a, c, rfl, h1, h2⟩ := h
  refine ⟨a, c, rfl, h1, fun hp => ?_⟩
  obtain ⟨b, o, rfl, hlt, hc⟩ := h2 hp
  exact ⟨b, o, rfl, hlt, fun i hi => (hb.cell (p := ⟨b, o + i, none⟩) hlt).trans (hc i hi)⟩
theorem Strs.mono {w : World} {B B' : Nat} {v : Value} {n : Nat} {S : Nat → ByteArray} (h : Strs w B v n S) (hb : B ≤ B') : Strs w B' v n S := by
  obtain ⟨a, c, rfl, h1, h2⟩ := h
  refine ⟨a, c, rfl, h1, fun hp => ?_⟩
  obtain ⟨b, o, rfl, hlt, hc⟩ := h2 hp
  exact ⟨b, o, rfl, by omega, hc⟩

def nat0 (n : Nat) (Z : Nat → Int) (i : Nat) : Int := if i < n then Z i else 0

theorem cat_any (B : Nat) (a : Option Addr) (n c : Nat) (Z : Nat → Int) (i : Nat) (w : World) (hn : n ≤ 1024) (h : Nums w B a n c Z) :
    Calls Yba.prog 9 #[.slice a n c, .int .i64 i] w fun e w' => e = .returned (.int .u64 (nat0 n Z i)) ∧ w' = w := by
  unfold nat0
  have hnc := h.1
  by_cases hlt : i < n
  · obtain ⟨b, o, rfl, _, hc⟩ := h.2 (by omega)
    have c0 := hc i hlt
    rw [if_pos hlt]
    go_enter Yba.func9, Yba.ntmps9
    go_wp2
    go_ret
    exact ⟨rfl, rfl⟩
  · rw [if_neg hlt]
    go_enter Yba.func9, Yba.ntmps9
    go_wp2
    go_ret
    exact ⟨rfl, rfl⟩

/-- how an element of 'map[string]Retired' reads -/
def rL : List Value → Option (DataW Unit × List MemPlace)
  | [.int .u64 a, .int .u64 c, .bool o] => some (.agg [.lit (.int .u64 a), .lit (.int .u64 c), .lit (.bool o)], [])
  | _ => none
def rE : Value → Option (DataW Unit × List MemPlace)
  | .agg cs => rL cs.toList
  | _ => none
theorem rL_inv {l : List Value} {d : DataW Unit} {ps : List MemPlace} (h : rL l = some (d, ps)) : ∃ a c o, l = [.int .u64 a, .int .u64 c, .bool o] ∧ d = .agg [.lit (.int .u64 a), .lit (.int .u64 c), .lit (.bool o)] := by
  unfold rL at h
  split at h
  · simp at h
    exact ⟨_, _, _, rfl, h.1.symm⟩
  · simp at h
theorem rE_inv {v : Value} {d : DataW Unit} {ps : List MemPlace} (h : rE v = some (d, ps)) : ∃ a c o, v = .agg #[.int .u64 a, .int .u64 c, .bool o] ∧ d = .agg [.lit (.int .u64 a), .lit (.int .u64 c), .lit (.bool o)] := by
  unfold rE at h
  split at h
  · obtain ⟨a, c, o, h1, h2⟩ := rL_inv h
    exact ⟨a, c, o, by rw [← Array.toList_inj.1 (show _ = (#[Value.int .u64 a, .int .u64 c, .bool o] : Array Value).toList from h1)], h2⟩
  · simp at h
def qa : DataW Unit → Int
  | .agg [.lit (.int .u64 a), _, _] => a
  | _ => 0
def qc : DataW Unit → Int
  | .agg [_, .lit (.int .u64 a), _] => a
  | _ => 0
def qo : DataW Unit → Bool
  | .agg [_, _, .lit (.bool a)] => a
  | _ => false
def zE : DataW Unit := .agg [.lit (.int .u64 0), .lit (.int .u64 0), .lit (.bool false)]
theorem zero42 (w : World) : (zeroValue 42).run Yba.prog w = .ok (.agg #[.int .u64 0, .int .u64 0, .bool false]) w := by kernel_rfl
/-- what the map says of a name -/
def say (D : DataW Unit) (s : ByteArray) : DataW Unit := D.atKey (.string s.data.toList) zE
theorem lookE {w : World} {b n : Nat} {D : DataW Unit} {s : ByteArray} (hs : s.size ≤ maxLen) (h : w.ownsMap Yba.prog 9 rE b n D) :
    (Instr.lookup 39 (.map (some b)) (.string s) false).run Yba.prog w = .ok (.agg #[.int .u64 (qa (say D s)), .int .u64 (qc (say D s)), .bool (qo (say D s))]) w := by
  obtain ⟨v, ps, hrun, hv⟩ := h.lookup law9 Yba.underlying39 (zero42 w) (zd := zE) (zp := []) rfl (Go.WideMaps.keyOf_string_mk Yba.underlying9 hs)
  obtain ⟨a, c, o, rfl, hd⟩ := rE_inv hv
  unfold say
  rw [hd]
  exact hrun
end Go.Proofs.Ybulkymy
