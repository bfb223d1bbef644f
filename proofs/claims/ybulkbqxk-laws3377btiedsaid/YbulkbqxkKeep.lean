import Derived.Test.YbulkbqxkShared
/-
  THE WALK OF 'keepCommon': it lays the row of common lengths and turns nothing else of the node.
-/
namespace Go.Proofs.Ybulkbqxk
open Go.RowKit

def z127 : Array Value := Array.replicate 127 (.int .u8 0)
theorem z127_size : z127.size = 127 := by simp [z127]
def al (t : TypeId) : Sem Value := Instr.alloc t true (.tuple #[])
theorem fold_al (t : TypeId) : Instr.alloc t true (.tuple #[]) = al t := rfl
theorem run_al (w : World) : (al 95).run Yba.prog w = .ok (.pointer (some ⟨w.heap.size, 0, none⟩)) (w.alloc (.cells z127 95)) := by kernel_rfl

theorem free_row {w : World} {b : Nat} {c : Array Value} {t : TypeId} (h : w.heap[b]? = some (.cells c t)) (o : Nat) : w.frozen? ⟨b, o, none⟩ = false := by
  simp [World.frozen?, h]
theorem row_set {w : World} {b o : Nat} {c : Array Value} {t : TypeId} {fr : Nat × Nat} (h : w.heap[b]? = some (.cells c t fr)) (v : Value) : (w.setCell ⟨b, o, none⟩ v).heap[b]? = some (.cells (c.setIfInBounds o v) t fr) := by
  simp only [World.setCell, Array.getElem?_modify, if_true, h]
  rfl
theorem row_far (w : World) (b o : Nat) (v : Value) (k : Nat) (h : k ≠ b) : (w.setCell ⟨b, o, none⟩ v).heap[k]? = w.heap[k]? := Below.heap_setCell _ _ _ _ h
theorem cell_row {w : World} {g : Nat} {cs : Array Value} {t : TypeId} (h : w.heap[g]? = some (.cells cs t)) (j : Nat) : w.cell? ⟨g, j, none⟩ = cs[j]? := cell_of_row w g j cs t (0, 0) h
theorem lt_row {w : World} {g : Nat} {o : Obj} (h : w.heap[g]? = some o) : g < w.heap.size := (Array.getElem?_eq_some_iff.1 h).1

/-- what 'shared' reads: n keys, behind the node in block g, whose cells are cur -/
structure Keys (w : World) (g ib n cap skip : Nat) (ks : Nat → ByteArray) (hs : Nat → Nat) (cur : Array Value) : Prop where
  row : w.heap[g]? = some (.cells cur 33)
  size : cur.size = 155
  items : cur[0]? = some (.slice (some ⟨ib, 0, none⟩) n cap)
  sk : cur[2]? = some (.int .i64 (skip : Int))
  hd : ∀ j, j < n → cur[28 + j]? = some (.int .u64 (hs j : Nat))
  key : ∀ j, j < n → w.cell? ⟨ib, j * 2, none⟩ = some (.string (ks j))
  far : ib < g
  le : n ≤ 127
  mx : ∀ j, j < n → (ks j).size ≤ 9223372036854775000
  sm : ∀ j, j < n → skip ≤ (ks j).size

theorem Keys.turn {w w' : World} {g ib n cap skip : Nat} {ks : Nat → ByteArray} {hs : Nat → Nat} {cur cur' : Array Value} (h : Keys w g ib n cap skip ks hs cur) (hb : Below g w w')
    (row : w'.heap[g]? = some (.cells cur' 33)) (hc : ∃ v, cur' = cur.setIfInBounds 3 v) : Keys w' g ib n cap skip ks hs cur' := by
  obtain ⟨v, rfl⟩ := hc
  have e : ∀ j, j ≠ 3 → (cur.setIfInBounds 3 v)[j]? = cur[j]? := fun j hj => by rw [Array.getElem?_setIfInBounds_ne (by omega)]
  refine ⟨row, by simp [h.size], (e 0 (by omega)).trans h.items, (e 2 (by omega)).trans h.sk, fun j hj => (e (28 + j) (by omega)).trans (h.hd j hj), fun j hj => ?_, h.far, h.le, h.mx, h.sm⟩
  exact (hb.cell (p := ⟨ib, j * 2, none⟩) h.far).trans (h.key j hj)

theorem Keys.heap {w w' : World} {g ib n cap skip : Nat} {ks : Nat → ByteArray} {hs : Nat → Nat} {cur : Array Value} (h : Keys w g ib n cap skip ks hs cur) (e : w'.heap = w.heap) : Keys w' g ib n cap skip ks hs cur :=
  ⟨by rw [e]; exact h.row, h.size, h.items, h.sk, h.hd, fun j hj => (by have := h.key j hj; unfold World.cell? at this ⊢; rw [e]; exact this), h.far, h.le, h.mx, h.sm⟩

theorem shared_keys {w : World} {g ib n cap skip : Nat} {ks : Nat → ByteArray} {hs : Nat → Nat} {cur : Array Value} (h : Keys w g ib n cap skip ks hs cur) (i : Nat) (h0 : 0 < i) (hi : i < n) :
    Calls Yba.prog 46 #[.pointer (some ⟨g, 0, none⟩), .int .i64 (i : Int)] w fun e w' => (∃ v : Int, e = .returned (.int .u8 v)) ∧ ∃ k, w' = w.drewN k := by
  have hle := h.le
  refine shared_any g ib n cap i skip (ks (i - 1)) (ks i) (hs (i - 1)) (hs i) w h0 (by omega) (by omega) (fun k => ?_) (fun k => ?_) (fun k => h.key (i - 1) (by omega)) (fun k => h.key i hi) (fun k => ?_) (fun k => ?_) (h.mx _ (by omega)) (h.mx _ hi) (h.sm _ (by omega))
  · exact (cell_row (w := w) h.row 0).trans h.items
  · exact (cell_row (w := w) h.row 2).trans h.sk
  · exact (cell_row (w := w) h.row _).trans (h.hd _ (by omega))
  · exact (cell_row (w := w) h.row _).trans (h.hd _ hi)

section
attribute [local go_sem ↓] fold_al
set_option maxHeartbeats 4000000 in
set_option maxRecDepth 100000 in
theorem keep_any (g ib n cap skip : Nat) (ks : Nat → ByteArray) (hs : Nat → Nat) (cur : Array Value) (w : World) (h : Keys w g ib n cap skip ks hs cur) (h3 : cur[3]? = some (.pointer none)) :
    Calls Yba.prog 29 #[.pointer (some ⟨g, 0, none⟩)] w fun e w' => e = .returned (.tuple #[]) ∧ Below g w w' ∧ ∃ v, w'.heap[g]? = some (.cells (cur.setIfInBounds 3 v) 33) := by
  have H : Hid (Keys w g ib n cap skip ks hs cur) := h
  have c3 : w.cell? ⟨g, 3, none⟩ = some (.pointer none) := (cell_row h.row 3).trans h3
  have f3 : ∀ W : World, W.heap[g]? = some (.cells cur 33) → W.frozen? ⟨g, 3, none⟩ = false := fun W hW => free_row hW 3
  have hgl := lt_row h.row
  have hal := run_al
  have c3' : (w.alloc (.cells z127 95)).cell? ⟨g, 3, none⟩ = some (.pointer none) := (cell_row ((Below.heap_alloc w _ g hgl).trans h.row) 3).trans h3
  have f3' : (w.alloc (.cells z127 95)).frozen? ⟨g, 3, none⟩ = false := free_row ((Below.heap_alloc w _ g hgl).trans h.row) 3
  clear h f3
  have hrow1 : ((w.alloc (.cells z127 95)).setCell ⟨g, 3, none⟩ (.pointer (some ⟨w.heap.size, 0, none⟩))).heap[g]? = some (.cells (cur.setIfInBounds 3 (.pointer (some ⟨w.heap.size, 0, none⟩))) 33) := row_set ((Below.heap_alloc w _ g hgl).trans H.out.row) _
  have hrow2 : ((w.alloc (.cells z127 95)).setCell ⟨g, 3, none⟩ (.pointer (some ⟨w.heap.size, 0, none⟩))).heap[w.heap.size]? = some (.cells z127 95) := (row_far _ _ _ _ _ (by omega)).trans (heap_alloc_new w _)
  have hbel : Below g w ((w.alloc (.cells z127 95)).setCell ⟨g, 3, none⟩ (.pointer (some ⟨w.heap.size, 0, none⟩))) := ((Below.refl _ _).alloc (by omega) _).setCell (p := ⟨g, 3, none⟩) (by show g ≤ g; omega) _
  have HH : Hid (((w.alloc (.cells z127 95)).setCell ⟨g, 3, none⟩ (.pointer (some ⟨w.heap.size, 0, none⟩))).heap[g]? = some (.cells (cur.setIfInBounds 3 (.pointer (some ⟨w.heap.size, 0, none⟩))) 33) ∧
     ((w.alloc (.cells z127 95)).setCell ⟨g, 3, none⟩ (.pointer (some ⟨w.heap.size, 0, none⟩))).heap[w.heap.size]? = some (.cells z127 95) ∧ Below g w ((w.alloc (.cells z127 95)).setCell ⟨g, 3, none⟩ (.pointer (some ⟨w.heap.size, 0, none⟩)))) := ⟨hrow1, hrow2, hbel⟩
  clear hrow1 hrow2 hbel
  obtain ⟨W1, e1⟩ : ∃ W1, (w.alloc (.cells z127 95)).setCell ⟨g, 3, none⟩ (.pointer (some ⟨w.heap.size, 0, none⟩)) = W1 := ⟨_, rfl⟩
  rw [e1] at HH
  go_enter Yba.func29, Yba.ntmps29
  go_wp2_with fail
  obtain ⟨N, eN⟩ : ∃ N, w.heap.size = N := ⟨_, rfl⟩
  go_loopg [2] (n - 1) (fun gg i wr => ∃ (j : Nat) (cc : Array Value), 1 ≤ j ∧ j ≤ 1000 ∧ gg = n - j ∧ i = .int .i64 (j : Int) ∧ Hid (Below g w wr ∧ wr.heap[g]? = some (.cells (cur.setIfInBounds 3 (.pointer (some ⟨N, 0, none⟩))) 33) ∧ wr.heap[N]? = some (.cells cc 95) ∧ cc.size = 127))
  case atStart => exact ⟨1, z127, by omega, by omega, rfl, rfl, ⟨HH.out.2.2, by rw [← eN]; exact HH.out.1, by rw [← eN]; exact HH.out.2.1, z127_size⟩⟩
  case round =>
    obtain ⟨j, cc, hj1, hj2, hg, rfl, hI⟩ := hrel
    have hg' : Hid (gk = n - j) := hg
    have hne : N ≠ g := by omega
    have hgN : g ≤ N := by omega
    clear hg HH e1 c3' f3' hal c3 W1 eN hgl
    have hK : Keys wr g ib n cap skip ks hs _ := H.out.turn hI.out.1 hI.out.2.1 ⟨_, rfl⟩
    have c0 : wr.cell? ⟨g, 0, none⟩ = some (.slice (some ⟨ib, 0, none⟩) n cap) := (cell_row hK.row 0).trans hK.items
    have hle := hK.le
    have HK : Hid (Keys wr g ib n cap skip ks hs (cur.setIfInBounds 3 (.pointer (some ⟨N, 0, none⟩)))) := hK
    clear hK
    by_cases hjn : j < n
    · have q1 : (j : Int) < (n : Int) := by omega
      have q2 : (j : Int) < 127 := by omega
      have c3 : wr.cell? ⟨g, 3, none⟩ = some (.pointer (some ⟨N, 0, none⟩)) := by
        rw [cell_row HK.out.row 3, Array.getElem?_setIfInBounds_self_of_lt (by rw [H.out.size]; omega)]
      obtain ⟨u, hu⟩ : ∃ u, cc[j]? = some u := ⟨_, Array.getElem?_eq_getElem (by rw [hI.out.2.2.2]; omega)⟩
      have cN : wr.cell? ⟨N, j, none⟩ = some u := (cell_row hI.out.2.2.1 j).trans hu
      have fN : wr.frozen? ⟨N, j, none⟩ = false := free_row hI.out.2.2.1 j
      have hw3 : IntKind.i64.wrap ((j : Int) + 1) = ((j + 1 : Nat) : Int) := by rw [wrap_id _ (by omega) (by omega)]; omega
      have Hj : Hid (1 ≤ j ∧ j < n) := ⟨hj1, hjn⟩
      have HS : Hid (wr.cell? ⟨g, 3, none⟩ = some (.pointer (some ⟨N, 0, none⟩)) ∧ wr.cell? ⟨N, j, none⟩ = some u ∧ wr.frozen? ⟨N, j, none⟩ = false) := ⟨c3, cN, fN⟩
      have HN : Hid (∀ (k : Nat) (v : Value), Below g w ((wr.drewN k).setCell ⟨N, j, none⟩ v) ∧ ((wr.drewN k).setCell ⟨N, j, none⟩ v).heap[g]? = some (.cells (cur.setIfInBounds 3 (.pointer (some ⟨N, 0, none⟩))) 33) ∧
          ((wr.drewN k).setCell ⟨N, j, none⟩ v).heap[N]? = some (.cells (cc.setIfInBounds j v) 95) ∧ (cc.setIfInBounds j v).size = 127) := fun k v =>
        ⟨(below_drewN hI.out.1 k).setCell (p := ⟨N, j, none⟩) (by exact hgN) _, (row_far _ _ _ _ _ (fun e => hne e.symm)).trans hI.out.2.1, row_set (w := wr.drewN k) hI.out.2.2.1 _, by simp [hI.out.2.2.2]⟩
      clear hu hjn hj1 c3 cN fN hI
      go_upto_region 5 with fail
      have c3 : ∀ k, (wr.drewN k).cell? ⟨g, 3, none⟩ = some (.pointer (some ⟨N, 0, none⟩)) := fun _ => HS.out.1
      have cN : ∀ k, (wr.drewN k).cell? ⟨N, j, none⟩ = some u := fun _ => HS.out.2.1
      have fN : ∀ k, (wr.drewN k).frozen? ⟨N, j, none⟩ = false := fun _ => HS.out.2.2
      have c3' : wr.drew.cell? ⟨g, 3, none⟩ = some (.pointer (some ⟨N, 0, none⟩)) := HS.out.1
      have cN' : wr.drew.cell? ⟨N, j, none⟩ = some u := HS.out.2.1
      have fN' : wr.drew.frozen? ⟨N, j, none⟩ = false := HS.out.2.2
      go_region_with ((go_at_call 46; refine (shared_keys (HK.out.heap (by rfl)) j Hj.out.1 Hj.out.2).mono ?_; rintro e w' ⟨⟨v, rfl⟩, k, rfl⟩))
      all_goals go_wp2
      all_goals go_roundg (n - (j + 1))
      all_goals first
        | exact ⟨j + 1, _, by omega, by have := Hj.out; omega, rfl, by go_num, HN.out _ _⟩
        | (have := hg'.out; have := Hj.out; omega)
    · have q1 : decide (j < n) = false := decide_eq_false hjn
      have q2 : ¬ (j : Int) < (n : Int) := by omega
      go_wp2_with fail
      go_end0
      exact ⟨rfl, hI.out.1, _, hI.out.2.1⟩
end
end Go.Proofs.Ybulkbqxk
