import Derived.Test.YbulkbqtqCells
/-
  THE CHAIN IN MEMORY: the map, the slice 'main', the links and their blocks.
-/
namespace Go.Proofs.Ybulkbqtq
open Go.RowKit
open Go.ChangeMaps (setBlock)

theorem hide {p : Prop} (h : p) : Hid p := h
theorem unhide {p : Prop} (h : Hid p) : p := h

/-- the cells of 'main' when its first k are laid -/
def rowA (n k : Nat) (L : Nat → Nat) : Array Value := ((List.range (n + 1)).map fun j => if j < k then .pointer (some ⟨L j, 0, none⟩) else .pointer none).toArray
theorem rowA_size (n k : Nat) (L : Nat → Nat) : (rowA n k L).size = n + 1 := by simp [rowA]
theorem rowA_get {n k : Nat} (L : Nat → Nat) {j : Nat} (hj : j < k) (hn : j ≤ n) : (rowA n k L)[j]? = some (.pointer (some ⟨L j, 0, none⟩)) := by
  simp [rowA, hj, List.getElem?_range (show j < n + 1 by omega)]
theorem rowA_nil {n k : Nat} (L : Nat → Nat) {j : Nat} (hj : k ≤ j) (hn : j ≤ n) : (rowA n k L)[j]? = some (.pointer none) := by
  simp [rowA, List.getElem?_range (show j < n + 1 by omega)]; omega
theorem rowA_zero (n : Nat) (L : Nat → Nat) : nils (n + 1) = rowA n 0 L := by
  apply Array.ext
  · simp [nils, rowA]
  · intro i h1 h2
    simp [nils, rowA]
theorem rowA_set {n k : Nat} (L : Nat → Nat) (l : Nat) (hl : L k = l) : (rowA n k L).setIfInBounds k (.pointer (some ⟨l, 0, none⟩)) = rowA n (k + 1) L := by
  apply Array.ext
  · simp [rowA]
  · intro i h1 h2
    rw [Array.getElem_setIfInBounds]
    · simp only [rowA, List.getElem_toArray, List.getElem_map, List.getElem_range]
      by_cases h : k = i
      · subst h; simp [hl]
      · simp only [if_neg h]
        by_cases h' : i < k
        · simp [h', show i < k + 1 by omega]
        · simp [h', show ¬ i < k + 1 by omega]
    · simpa using h1
theorem rowA_congr {n k : Nat} {L L' : Nat → Nat} (h : ∀ j, j < k → L j = L' j) : rowA n k L = rowA n k L' := by
  unfold rowA
  congr 1
  refine List.map_congr_left fun j _ => ?_
  by_cases hj : j < k
  · simp [hj, h j hj]
  · simp [hj]

/-- the Parent of block j -/
def par : Nat → Array Value
  | 0 => z32
  | j + 1 => hA j

/-- The chain: the map in block N with its first m entries, 'main' in block N + 1 with its first k links; link j in block L j, its block in block B j. -/
structure Inv (N n k m : Nat) (L B : Nat → Nat) (w : World) : Prop where
  map : w.heap[N]? = some (.map (ents L m) m)
  row : w.heap[N + 1]? = some (.cells (rowA n k L) 27)
  link : ∀ j, j < k → w.heap[L j]? = some (.cells (lkA (some ⟨B j, 0, none⟩) (hA j) j) 38)
  blk : ∀ j, j < k → w.heap[B j]? = some (.cells (bkA j (par j)) 35)
  inj : ∀ i, i < k → ∀ j, j < k → L i = L j → i = j

theorem lt_of_heap {w : World} {b : Nat} {o : Obj} (h : w.heap[b]? = some o) : b < w.heap.size := (Array.getElem?_eq_some_iff.1 h).1

/-- What lies stays, while nothing below s turns and all of it lies below s. -/
theorem Inv.below {N n k m : Nat} {L B : Nat → Nat} {w w' : World} (h : Inv N n k m L B w) (hb : Below w.heap.size w w') : Inv N n k m L B w' :=
  ⟨(hb.block _ (lt_of_heap h.map)).trans h.map, (hb.block _ (lt_of_heap h.row)).trans h.row, fun j hj => (hb.block _ (lt_of_heap (h.link j hj))).trans (h.link j hj),
    fun j hj => (hb.block _ (lt_of_heap (h.blk j hj))).trans (h.blk j hj), h.inj⟩

theorem Inv.drewN {N n k m : Nat} {L B : Nat → Nat} {w : World} (h : Inv N n k m L B w) (d : Nat) : Inv N n k m L B (w.drewN d) := h.below (below_drewN (Below.refl _ _) d)

/-! ### what the walk reads -/
theorem cell_of_heap {w : World} {b : Nat} {c : Array Value} {t : TypeId} {fr : Nat × Nat} (h : w.heap[b]? = some (.cells c t fr)) (o : Nat) : w.cell? ⟨b, o, none⟩ = c[o]? := cell_of_row w b o c t fr h
theorem free_of_heap {w : World} {b : Nat} {c : Array Value} {t : TypeId} (h : w.heap[b]? = some (.cells c t)) (o : Nat) : w.frozen? ⟨b, o, none⟩ = false := by
  simp [World.frozen?, h]
theorem lkA_get0 (p : Option Addr) (h : Array Value) (n : Int) : (lkA p h n)[0]? = some (.pointer p) := by
  unfold lkA
  rw [Array.append_assoc, Array.getElem?_append_left (by simp)]
  rfl
theorem lkA_get33 (p : Option Addr) (h : Array Value) (n : Int) (hs : h.size = 32) : (lkA p h n)[33]? = some (.int .i64 n) := by
  unfold lkA
  rw [Array.getElem?_append_right (by simp [hs])]
  simp [hs]
theorem lkA_mid (p : Option Addr) (h : Array Value) (n : Int) (j : Nat) (hj : j < h.size) : (lkA p h n)[1 + j]? = h[j]? := by
  unfold lkA
  rw [Array.append_assoc, Array.getElem?_append_right (by simp), Array.getElem?_append_left (by simp; omega)]
  simp
theorem bkA_mid (r : Int) (h : Array Value) (j : Nat) (hj : j < h.size) : (bkA r h)[3 + j]? = h[j]? := by
  unfold bkA
  rw [Array.append_assoc, Array.getElem?_append_right (by simp), Array.getElem?_append_left (by simp; omega)]
  simp
theorem range_link {w : World} {b : Nat} {p : Option Addr} {h : Array Value} {n : Int} {t : TypeId} (hh : w.heap[b]? = some (.cells (lkA p h n) t)) : w.rangeAt b 1 h.toList := fun j v hv => by
  have hj : j < h.size := by have := (List.getElem?_eq_some_iff.1 hv).1; simpa using this
  rw [cell_of_heap hh, lkA_mid _ _ _ _ hj]
  simpa using hv
theorem range_blk {w : World} {b : Nat} {r : Int} {h : Array Value} {t : TypeId} (hh : w.heap[b]? = some (.cells (bkA r h) t)) : w.rangeAt b 3 h.toList := fun j v hv => by
  have hj : j < h.size := by have := (List.getElem?_eq_some_iff.1 hv).1; simpa using this
  rw [cell_of_heap hh, bkA_mid _ _ _ hj]
  simpa using hv

/-! ### the steps of the build -/
theorem heap_setCell_at {w : World} {b o : Nat} {c : Array Value} {t : TypeId} {fr : Nat × Nat} (h : w.heap[b]? = some (.cells c t fr)) (v : Value) : (w.setCell ⟨b, o, none⟩ v).heap[b]? = some (.cells (c.setIfInBounds o v) t fr) := by
  simp only [World.setCell, Array.getElem?_modify, if_true, h]
  rfl
theorem heap_setBlock_at {w : World} {b : Nat} {o' : Obj} (h : w.heap[b]? = some o') (o : Obj) : (setBlock w b o).heap[b]? = some o := by
  have := lt_of_heap h
  simp [setBlock, this]
theorem heap_setBlock_far (w : World) {b i : Nat} (o : Obj) (h : i ≠ b) : (setBlock w b o).heap[i]? = w.heap[i]? := by
  simp [setBlock, Ne.symm h]
theorem below_setBlock {S b : Nat} {w0 w : World} (h : Below S w0 w) (hb : S ≤ b) (o : Obj) : Below S w0 (setBlock w b o) :=
  ⟨h.os, h.tape, h.output, by simpa [setBlock] using h.size, fun k hk => (heap_setBlock_far w o (by omega)).trans (h.block k hk)⟩

/-- an entry more -/
theorem Inv.put {N n k m : Nat} {L B : Nat → Nat} {w : World} (h : Inv N n k m L B w) : Inv N n k (m + 1) L B (setBlock w N (.map (ents L (m + 1)) (m + 1))) := by
  have far : ∀ {i : Nat} {c : Array Value} {t : TypeId}, w.heap[i]? = some (.cells c t) → i ≠ N := by
    intro i c t hi e
    subst e
    rw [h.map] at hi
    cases hi
  exact ⟨heap_setBlock_at h.map _, (heap_setBlock_far w _ (far h.row)).trans h.row, fun j hj => (heap_setBlock_far w _ (far (h.link j hj))).trans (h.link j hj),
    fun j hj => (heap_setBlock_far w _ (far (h.blk j hj))).trans (h.blk j hj), h.inj⟩

/-- a link more: laid in new blocks, stored into 'main' -/
theorem Inv.more {N n k m : Nat} {L B : Nat → Nat} {w wc : World} (h : Inv N n k m L B w) (hm : m ≤ k) (hb : Below w.heap.size w wc) {lb bb : Nat} (h1 : w.heap.size ≤ lb)
    (hl : wc.heap[lb]? = some (.cells (lkA (some ⟨bb, 0, none⟩) (hA k) k) 38)) (hB : wc.heap[bb]? = some (.cells (bkA k (par k)) 35)) :
    Inv N n (k + 1) m (fun j => if j = k then lb else L j) (fun j => if j = k then bb else B j) (wc.setCell ⟨N + 1, k, none⟩ (.pointer (some ⟨lb, 0, none⟩))) := by
  have hc := h.below hb
  have lN := lt_of_heap h.row
  have eL : ∀ j, j < k → (fun j => if j = k then lb else L j) j = L j := fun j hj => if_neg (by omega)
  have eB : ∀ j, j < k → (fun j => if j = k then bb else B j) j = B j := fun j hj => if_neg (by omega)
  have far : ∀ {i : Nat} {c : Array Value} {t : TypeId}, wc.heap[i]? = some (.cells c t) → t ≠ 27 → i ≠ N + 1 := by
    intro i c t hi ht e
    subst e
    rw [hc.row] at hi
    simp only [Option.some.injEq, Obj.cells.injEq] at hi
    exact ht hi.2.1.symm
  refine ⟨?_, ?_, ?_, ?_, ?_⟩
  · rw [Below.heap_setCell _ _ _ _ (by simp), hc.map, ents_congr (L' := fun j => if j = k then lb else L j) (fun j hj => (eL j (by omega)).symm)]
  · rw [heap_setCell_at hc.row, rowA_congr (L' := fun j => if j = k then lb else L j) (fun j hj => (eL j hj).symm), rowA_set _ lb (by simp)]
  · intro j hj
    by_cases e : j = k
    · subst e
      simp only [if_true]
      rw [Below.heap_setCell _ _ _ _ (by simpa using far hl (by decide)), hl]
    · simp only [if_neg e]
      have hj' : j < k := by omega
      rw [Below.heap_setCell _ _ _ _ (by simpa using far (hc.link j hj') (by decide)), hc.link j hj']
  · intro j hj
    by_cases e : j = k
    · subst e
      simp only [if_true]
      rw [Below.heap_setCell _ _ _ _ (by simpa using far hB (by decide)), hB]
    · simp only [if_neg e]
      have hj' : j < k := by omega
      rw [Below.heap_setCell _ _ _ _ (by simpa using far (hc.blk j hj') (by decide)), hc.blk j hj']
  · intro i hi j hj e
    have ll : ∀ j, j < k → L j < w.heap.size := fun j hj => lt_of_heap (h.link j hj)
    by_cases ei : i = k
    · by_cases ej : j = k
      · omega
      · have := ll j (by omega)
        simp [ei, ej] at e
        omega
    · by_cases ej : j = k
      · have := ll i (by omega)
        simp [ei, ej] at e
        omega
      · simp [ei, ej] at e
        exact h.inj i (by omega) j (by omega) e

end Go.Proofs.Ybulkbqtq
