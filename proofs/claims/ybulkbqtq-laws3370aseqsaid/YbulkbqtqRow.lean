import Derived.Test.YbulkbqtqChain
import Derived.Laws.AppendOwn
import Derived.OwnWalk
/-
  A SLICE OF POINTERS TO LINKS, AND 'append' OF ONE MORE: what it leaves, and what it keeps.
-/
namespace Go.Proofs.Ybulkbqtq
open Go.RowKit

/-- a pointer to the head of block b, as a value -/
abbrev pv (b : Nat) : Value := .pointer (some ⟨b, 0, none⟩)

/-- The slice v holds pointers to the blocks cs: nil, or from the head of a row of its own. -/
def Row (w : World) (v : Value) (cs : List Nat) : Prop :=
  (v = .slice none 0 0 ∧ cs = []) ∨
  ∃ g cap cur, v = .slice (some ⟨g, 0, none⟩) cs.length cap ∧ w.heap[g]? = some (.cells cur 27) ∧ cs.length ≤ cap ∧ cap ≤ maxLen ∧ cur.size = cap ∧ cur.toList.take cs.length = cs.map fun b => pv b

/-- w' is w, with new blocks; of v's own row the first n cells are as they were. -/
structure Keep (v : Value) (n : Nat) (w w' : World) : Prop where
  os : w'.os = w.os
  tape : w'.tape = w.tape
  output : w'.output = w.output
  size : w.heap.size ≤ w'.heap.size
  far : ∀ k, k < w.heap.size → v.ownBlock ≠ some k → w'.heap[k]? = w.heap[k]?
  near : ∀ k cur, v.ownBlock = some k → w.heap[k]? = some (.cells cur 27) → ∃ cur', w'.heap[k]? = some (.cells cur' 27) ∧ cur'.size = cur.size ∧ cur'.toList.take n = cur.toList.take n

theorem Row.keep {w w' : World} {v v0 : Value} {cs0 : List Nat} {n : Nat} (h : Row w v0 cs0) (hk : Keep v n w w') (hn : cs0.length ≤ n) : Row w' v0 cs0 := by
  rcases h with h | ⟨g, cap, cur, hv, hg, h1, h2, h3, h4⟩
  · exact .inl h
  · by_cases e : v.ownBlock = some g
    · obtain ⟨cur', hg', hs', ht'⟩ := hk.near g cur e hg
      refine .inr ⟨g, cap, cur', hv, hg', h1, h2, by omega, ?_⟩
      rw [← h4]
      have e2 := congrArg (List.take cs0.length) ht'
      rw [List.take_take, List.take_take, Nat.min_eq_left hn] at e2
      exact e2
    · exact .inr ⟨g, cap, cur, hv, (hk.far g (lt_of_heap hg) e).trans hg, h1, h2, h3, h4⟩

theorem Row.same {w w' : World} {v : Value} {cs : List Nat} (h : Row w v cs) (hk : ∀ g, v.ownBlock = some g → w'.heap[g]? = w.heap[g]?) : Row w' v cs := by
  rcases h with h | ⟨g, cap, cur, rfl, hg, rest⟩
  · exact .inl h
  · exact .inr ⟨g, cap, cur, rfl, (hk g rfl).trans hg, rest⟩

theorem Row.lt {w : World} {v : Value} {cs : List Nat} (h : Row w v cs) : ∀ g, v.ownBlock = some g → ∃ cur, w.heap[g]? = some (.cells cur 27) := by
  intro g e
  rcases h with ⟨rfl, _⟩ | ⟨g', cap, cur, rfl, hg, _⟩
  · cases e
  · simp only [Value.ownBlock, Option.some.injEq] at e
    subst e
    exact ⟨cur, hg⟩

/-- element i of the slice -/
theorem Row.at {w : World} {g cap n : Nat} {cs : List Nat} (h : Row w (.slice (some ⟨g, 0, none⟩) n cap) cs) {i : Nat} (hi : i < cs.length) : w.cell? ⟨g, i, none⟩ = some (pv (cs.getD i 0)) := by
  rcases h with ⟨h, _⟩ | ⟨g', cap', cur, hv, hg, h1, h2, h3, h4⟩
  · cases h
  · simp only [Value.slice.injEq, Option.some.injEq, Addr.mk.injEq, and_true] at hv
    obtain ⟨rfl, _, _⟩ := hv
    rw [cell_of_heap hg]
    have e := congrArg (fun l => l[i]?) h4
    simp only [List.getElem?_take, hi, if_true, Array.getElem?_toList, List.getElem?_map] at e
    rw [e]
    simp [hi]

theorem Row.len {w : World} {a : Option Addr} {cap n : Nat} {cs : List Nat} (h : Row w (.slice a n cap) cs) : n = cs.length := by
  rcases h with ⟨h, rfl⟩ | ⟨g', cap', cur, hv, _⟩
  · cases h; rfl
  · cases hv; rfl

/-- The value is a slice of the list's length. -/
theorem Row.form {w : World} {v : Value} {cs : List Nat} (h : Row w v cs) : ∃ a cap, v = .slice a cs.length cap := by
  rcases h with ⟨rfl, rfl⟩ | ⟨g', cap', cur, rfl, _⟩
  · exact ⟨none, 0, rfl⟩
  · exact ⟨_, _, rfl⟩

theorem Row.formPos {w : World} {v : Value} {cs : List Nat} (h : Row w v cs) (hp : 0 < cs.length) : ∃ g cap, v = .slice (some ⟨g, 0, none⟩) cs.length cap := by
  rcases h with ⟨rfl, rfl⟩ | ⟨g', cap', cur, rfl, _⟩
  · simp at hp
  · exact ⟨_, _, rfl⟩

/-- 'append(v, x)', x laid in a block a of its own. -/
theorem run_app (w : World) (v : Value) (cs : List Nat) (h : Row w v cs) (a x : Nat) (ha : w.heap[a]? = some (.cells #[pv x] 27)) (hl : cs.length ≤ 5000) :
    ∃ g cap w', (Builtin.append_ #[24, 24] 24 #[v, .slice (some ⟨a, 0, none⟩) 1 1]).run Yba.prog w = .ok (.slice (some ⟨g, 0, none⟩) (cs.length + 1) cap) w' ∧
      Row w' (.slice (some ⟨g, 0, none⟩) (cs.length + 1) cap) (cs ++ [x]) ∧ Keep v cs.length w w' ∧ (v.ownBlock = some g ∨ g = w.heap.size) := by
  obtain ⟨i, hi, hz, hs, hb⟩ := info_parts info27
  have hnews : ∀ j u, [pv x][j]? = some u → w.cell? ((⟨a, 0, none⟩ : Addr).add j) = some u := by
    intro j u hu
    match j, hu with
    | 0, hu => simp at hu; subst hu; simp [Addr.add, cell_of_heap ha]
  have hn1 : [pv x].length = 1 * i.size := by rw [hs]; rfl
  have grow : ∀ (c : Nat) (zc : Array Value), c = zc.size + (cs.length + 1) → c ≤ maxLen → Row (w.drew.alloc (.cells ((cs.map fun b => pv b).toArray ++ [pv x].toArray ++ zc) 27)) (.slice (some ⟨w.heap.size, 0, none⟩) (cs.length + 1) c) (cs ++ [x]) := by
    intro c zc hc hm
    refine .inr ⟨w.heap.size, c, _, by simp, heap_alloc_new w.drew _, by simp; omega, hm, by simp; omega, ?_⟩
    rw [show (cs ++ [x]).length = ((cs.map fun b => pv b) ++ [pv x]).length by simp]
    simp only [Array.toList_append, List.append_assoc]
    rw [← List.append_assoc, List.take_left]
    simp
  have kg : ∀ o, Keep v cs.length w (w.drew.alloc o) := fun o =>
    ⟨rfl, rfl, rfl, by simp, fun k hk _ => heap_alloc_old w.drew _ hk, fun k cur _ hc => ⟨cur, (heap_alloc_old w.drew _ (lt_of_heap hc)).trans hc, rfl, rfl⟩⟩
  rcases h with ⟨rfl, rfl⟩ | ⟨g, cap, cur, rfl, hg, h1, h2, h3, h4⟩
  · have hr := run_append_nil (P := Yba.prog) w 24 24 27 i _ Yba.underlying24 hi hz ⟨a, 0, none⟩ 1 1 [pv x] hn1 hnews (by omega) (by omega) (by rw [hb]; omega)
    refine ⟨_, _, _, hr, ?_, kg _, .inr rfl⟩
    have := grow (grownCap w 1 0 27) (Builtin.zeroCells (Value.pointer none).cells (grownCap w 1 0 27 - 1)) (by have := grownCap_ge w 1 0 27; simp [size_zeroCells, Value.cells]; omega) (grownCap_le_maxLen w 1 0 27 (by unfold maxLen; omega))
    simpa using this
  · have hcell : ∀ j u, (cs.map fun b => pv b)[j]? = some u → w.cell? ((⟨g, 0, none⟩ : Addr).add j) = some u := by
      intro j u hu
      have hj : j < cs.length := by have := (List.getElem?_eq_some_iff.1 hu).1; simpa using this
      have e : (⟨g, 0, none⟩ : Addr).add j = ⟨g, j, none⟩ := by unfold Addr.add; split <;> simp_all
      rw [e, cell_of_heap hg]
      rw [← h4] at hu
      simpa [List.getElem?_take, hj] using hu
    by_cases hroom : cs.length + 1 ≤ cap
    · have hr := run_append_room (P := Yba.prog) w 24 24 27 i Yba.underlying24 hi g cs.length cap cur hg ⟨a, 0, none⟩ 1 1 [pv x] hn1 hnews (by simp [Value.oneCell']) hroom (by rw [hs]; simp; omega)
      rw [hs] at hr
      simp only [Nat.mul_one, List.length_cons, List.length_nil, Nat.zero_add] at hr
      refine ⟨_, _, _, hr, .inr ⟨g, cap, _, by simp, setRow_heap w g cur _ 27 _ hg, by simpa using hroom, h2, by simp; omega, ?_⟩, ⟨rfl, rfl, rfl, by simp, fun k hk e => setRow_other w g k _ (fun e' => e (by simp [Value.ownBlock, e'])), ?_⟩, .inl rfl⟩
      · simp only [h4]
        rw [show (cs ++ [x]).length = ((cs.map fun b => pv b) ++ [pv x]).length by simp, List.take_left]
        simp
      · intro k cur0 e hc
        simp only [Value.ownBlock, Option.some.injEq] at e
        subst e
        rw [hg] at hc
        cases hc
        refine ⟨_, setRow_heap w g cur _ 27 _ hg, by simp; omega, ?_⟩
        rw [List.append_assoc, List.take_append_of_le_length (by simp; omega), List.take_take]
        simp
    · have hr := run_append_grow (P := Yba.prog) w 24 24 27 i _ Yba.underlying24 hi hz ⟨g, 0, none⟩ cs.length cap (cs.map fun b => pv b) (by rw [hs]; simp) hcell ⟨a, 0, none⟩ 1 1 [pv x] hn1 hnews (by omega) (by omega)
        (growslice_fits (by omega) (by rw [hb]; omega))
      refine ⟨_, _, _, hr, ?_, kg _, .inr rfl⟩
      exact grow (grownCap w (cs.length + 1) cap 27) (Builtin.zeroCells (Value.pointer none).cells (grownCap w (cs.length + 1) cap 27 - (cs.length + 1))) (by have := grownCap_ge w (cs.length + 1) cap 27; simp [size_zeroCells, Value.cells]; omega)
        (grownCap_le_maxLen w _ cap 27 (by unfold maxLen; omega))

end Go.Proofs.Ybulkbqtq
