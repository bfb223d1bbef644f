import Derived.Test.YbulkbqtqHash
import Derived.Maps.Keyed
import Derived.DeepKeys4
import Derived.ChangeMaps5
/-
  THE MAP 'links', as the build lays it: entry j bears the hash of j and a pointer to link j.
-/
namespace Go.Proofs.Ybulkbqtq
open Go.RowKit Go.Maps
open Go.ChangeMaps (setBlock)

theorem laidOut : laidOutB Yba.prog = true := by kernel_rfl
theorem row30 : 30 < Yba.prog.types.size := of_decide_eq_true (by kernel_rfl)
theorem law30 : WideMaps.KeyLaw Yba.prog 30 := deep_law_laid laidOut (m := 2) (by omega) row30 (by kernel_rfl) (by rw [Yba.underlying30])
theorem K30 : Keyed Yba.prog 30 := Keyed.of_law law30

theorem keys_all : ((List.range 300).all fun i => (keyOf Yba.prog 30 (.agg (hA (i : Nat)))).isSome) = true := by kernel_rfl
theorem key_of (i : Nat) (h : i < 300) : ∃ l, keyOf Yba.prog 30 (.agg (hA i)) = some l := by
  have := List.all_eq_true.1 keys_all i (List.mem_range.2 h)
  exact Option.isSome_iff_exists.1 this

theorem hA_get0 (i : Int) : (hA i)[0]? = some (.int .u8 (i % 256)) := by simp [hA, z32_size]
theorem hA_get1 (i : Int) : (hA i)[1]? = some (.int .u8 (i / 256)) := by simp [hA, z32_size]
theorem hA_inj {i j : Nat} (h : hA i = hA j) : i = j := by
  have h0 := hA_get0 i
  have h1 := hA_get1 i
  rw [h, hA_get0] at h0
  rw [h, hA_get1] at h1
  simp only [Option.some.injEq, Value.int.injEq, true_and] at h0 h1
  omega

/-- entry j -/
def ent (L : Nat → Nat) (j : Nat) : MapEntry := { key := .agg (hA j), val := .pointer (some ⟨L j, 0, none⟩), born := j }
/-- the first k entries -/
def ents (L : Nat → Nat) (k : Nat) : Array MapEntry := ((List.range k).map (ent L)).toArray

theorem ents_succ (L : Nat → Nat) (k : Nat) : ents L (k + 1) = (ents L k).push (ent L k) := by
  simp [ents, List.range_succ]
theorem ents_congr {L L' : Nat → Nat} {k : Nat} (h : ∀ j, j < k → L j = L' j) : ents L k = ents L' k := by
  unfold ents
  congr 1
  refine List.map_congr_left fun j hj => ?_
  simp only [ent, h j (List.mem_range.1 hj)]
theorem ents_keys (L : Nat → Nat) (k : Nat) (hk : k ≤ 300) : ∀ e ∈ (ents L k).toList, ∃ l, keyOf Yba.prog 30 e.key = some l := by
  intro e he
  simp only [ents, List.mem_map, List.mem_range] at he
  obtain ⟨j, hj, rfl⟩ := he
  exact key_of j (by omega)

/-- 'links[hash of k] = l', the k entries before it there: the entry is laid behind them. -/
theorem run_put {w : World} {b : Nat} {L : Nat → Nat} {k : Nat} (hb : w.heap[b]? = some (.map (ents L k) k)) (hk : k < 300) (l : Nat) (hl : L k = l) :
    (Instr.mapUpdate 23 (.map (some b)) (.agg (hA k)) (.pointer (some ⟨l, 0, none⟩))).run Yba.prog w = .ok () (setBlock w b (.map (ents L (k + 1)) (k + 1))) := by
  obtain ⟨lk, hkey⟩ := key_of k hk
  rcases K30.find w hkey (ents L k).toList (ents_keys L k (by omega)) with ⟨h1, _⟩ | ⟨j, e, _, h2, h3⟩
  · rw [ents_succ]
    simp [Instr.mapUpdate, run_underlying Yba.underlying23, MapKept.run_getObj_map hb, K30.check w false hkey, h1, MapKept.run_setObj_map _ hb, Result.andThen, setBlock, ent, hl]
  · exfalso
    have hm := List.mem_of_getElem? h2
    simp only [ents, List.mem_map, List.mem_range] at hm
    obtain ⟨i, hi, rfl⟩ := hm
    have := hA_inj (by simpa [ent] using h3)
    omega

/-- 'links[hash of i]': the pointer to link i. -/
theorem run_get {w : World} {b : Nat} {L : Nat → Nat} {k : Nat} (hb : w.heap[b]? = some (.map (ents L k) k)) (hk : k ≤ 300) (i : Nat) (hi : i < k) :
    (Instr.lookup 23 (.map (some b)) (.agg (hA i)) false).run Yba.prog w = .ok (.pointer (some ⟨L i, 0, none⟩)) w := by
  obtain ⟨lk, hkey⟩ := key_of i (by omega)
  rcases K30.find w hkey (ents L k).toList (ents_keys L k hk) with ⟨_, h2⟩ | ⟨j, e, h1, h2, h3⟩
  · exfalso
    exact h2 (ent L i) (by simp only [ents, List.mem_map, List.mem_range]; exact ⟨i, hi, rfl⟩) rfl
  · have hm := List.mem_of_getElem? h2
    simp only [ents, List.mem_map, List.mem_range] at hm
    obtain ⟨i', hi', rfl⟩ := hm
    have := hA_inj (by simpa [ent] using h3)
    subst this
    simp [Instr.lookup, run_underlying Yba.underlying23, MapKept.run_getObj_map hb, K30.check w _ hkey, h1, Result.andThen, ent]

end Go.Proofs.Ybulkbqtq
