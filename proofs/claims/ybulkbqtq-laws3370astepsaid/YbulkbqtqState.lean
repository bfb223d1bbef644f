import Derived.Test.YbulkbqtqBack
import Derived.Test.YbulkbqtqBody
/-
  WHAT commit KEEPS AND LEAVES: the replica's state, a round of the range, the end.
-/
namespace Go.Proofs.Ybulkbqtq
open Go.RowKit Go.Shelf

/-- the blocks met on the way down from height H, m not yet reached below: H, H - 1, .., m + 1 -/
def frs (L : Nat → Nat) (H m : Nat) : List Nat := (List.range (H - m)).map fun t => L (H - t)
theorem frs_len (L : Nat → Nat) (H m : Nat) : (frs L H m).length = H - m := by simp [frs]
theorem frs_step (L : Nat → Nat) (H j : Nat) (h : j < H) : frs L H j = frs L H (j + 1) ++ [L (j + 1)] := by
  unfold frs
  rw [show H - j = (H - (j + 1)) + 1 by omega, List.range_succ, List.map_append]
  simp only [List.map_cons, List.map_nil]
  rw [show H - (H - (j + 1)) = j + 1 by omega]

/-- the replica, its chain, the blocks it committed -/
structure St (rb cb N n : Nat) (pref : Int) (cm out : Value) (L B : Nat → Nat) (cs : List Nat) (w : World) : Prop where
  rep : w.heap[rb]? = some (.cells (repA cb pref cm out) 61)
  chn : w.heap[cb]? = some (.cells (chnA N) 47)
  inv : Inv N n (n + 1) (n + 1) L B w
  row : Row w cm cs
  lnk : ∀ x, x ∈ cs → ∃ c, w.heap[x]? = some (.cells c 38)
  mn : cm.ownBlock ≠ some (N + 1)

theorem St.below {rb cb N n : Nat} {pref : Int} {cm out : Value} {L B : Nat → Nat} {cs : List Nat} {w w' : World} (h : St rb cb N n pref cm out L B cs w) (hb : Below w.heap.size w w') : St rb cb N n pref cm out L B cs w' :=
  ⟨(hb.block _ (lt_of_heap h.rep)).trans h.rep, (hb.block _ (lt_of_heap h.chn)).trans h.chn, h.inv.below hb, h.row.same (fun g e => by obtain ⟨c, hc⟩ := h.row.lt g e; exact hb.block _ (lt_of_heap hc)),
    fun x hx => by obtain ⟨c, hc⟩ := h.lnk x hx; exact ⟨c, (hb.block _ (lt_of_heap hc)).trans hc⟩, h.mn⟩

theorem Row.later {w : World} {v : Value} {cs : List Nat} (h : Row w v cs) (o : Obj) (k : Nat) : Row ((w.alloc o).drewN k) v cs :=
  h.same fun g e => by obtain ⟨c, hc⟩ := h.lt g e; exact Below.heap_alloc w o g (lt_of_heap hc)
theorem new_later (w : World) (o : Obj) (k : Nat) : ((w.alloc o).drewN k).heap[w.heap.size]? = some o := heap_alloc_new w o
theorem below_later {S : Nat} {w0 w : World} (h : Below S w0 w) (hS : S ≤ w.heap.size) (o : Obj) (k : Nat) : Below S w0 ((w.alloc o).drewN k) := below_drewN (h.alloc hS o) k

/-- w' is w with new blocks, and with writes to the replica's block and to the row of what it had committed. -/
structure But (rb : Nat) (cm : Value) (w w' : World) : Prop where
  os : w'.os = w.os
  tape : w'.tape = w.tape
  output : w'.output = w.output
  size : w.heap.size ≤ w'.heap.size
  far : ∀ k, k < w.heap.size → k ≠ rb → cm.ownBlock ≠ some k → w'.heap[k]? = w.heap[k]?

theorem But.refl (rb : Nat) (cm : Value) (w : World) : But rb cm w w := ⟨rfl, rfl, rfl, Nat.le_refl _, fun _ _ _ _ => rfl⟩

/-- between two rounds: the blocks 'pre' have been appended -/
def Rd (rb cb : Nat) (pref : Int) (cm out : Value) (cs : List Nat) (w0 : World) (pre : List (Nat × Nat)) (w : World) : Prop :=
  But rb cm w0 w ∧ Row w cm cs ∧ ∃ v, w.heap[rb]? = some (.cells (repA cb pref v out) 61) ∧ Row w v (cs ++ pre.map (·.2)) ∧ (∀ k, v.ownBlock = some k → cm.ownBlock = some k ∨ w0.heap.size ≤ k)

theorem rd_own (rb cb : Nat) (pref : Int) (cm out : Value) (cs : List Nat) (w0 : World) (B : Nat) (hB : w0.heap.size ≤ B) : OwnFrom B (Rd rb cb pref cm out cs w0) := by
  rintro pre W W' row ⟨hb, h0, v, h1, h2, h3⟩ hg hr
  have cell : ∀ {k : Nat} {c : Array Value} {t : TypeId}, W.heap[k]? = some (.cells c t) → W'.heap[k]? = some (.cells c t) := by
    intro k c t hk
    refine (hg.block k (lt_of_heap hk) (fun e => ?_)).trans hk
    obtain ⟨_, o, ho, hc⟩ := hr k e.symm
    rw [hk] at ho
    cases ho
    cases hc
  have row' : ∀ {v : Value} {l : List Nat}, Row W v l → Row W' v l := fun {v l} h => h.same (fun g e => by obtain ⟨c, hc⟩ := h.lt g e; rw [cell hc, hc])
  refine ⟨⟨hg.os.trans hb.os, hg.tape.trans hb.tape, hg.output.trans hb.output, Nat.le_trans hb.size hg.size, fun k hk e1 e2 => ?_⟩, row' h0, v, cell h1, row' h2, h3⟩
  refine (hg.block k (Nat.lt_of_lt_of_le hk hb.size) (fun e => ?_)).trans (hb.far k hk e1 e2)
  have := (hr k e.symm).1
  omega


/-- the blocks that are committed anew: heights C + 1 .. H -/
def up (L : Nat → Nat) (C H : Nat) : List Nat := (List.range (H - C)).map fun t => L (C + 1 + t)
theorem up_len (L : Nat → Nat) (C H : Nat) : (up L C H).length = H - C := by simp [up]
theorem frs_rev (L : Nat → Nat) (H m : Nat) : (frs L H m).reverse = up L m H := by
  apply List.ext_getElem
  · simp [frs, up]
  · intro i h1 h2
    simp only [up, List.length_map, List.length_range] at h2
    simp only [frs, up, List.getElem_reverse, List.getElem_map, List.getElem_range, List.length_map, List.length_range]
    congr 1
    omega

theorem setCell_far (w : World) (b o : Nat) (v : Value) (k : Nat) (h : k ≠ b) : (w.setCell ⟨b, o, none⟩ v).heap[k]? = w.heap[k]? := Below.heap_setCell _ _ _ _ h

/-- one round: what the append and the store leave -/
theorem rd_step {rb cb : Nat} {pref : Int} {cm out : Value} {cs : List Nat} {W0 W : World} {pre : List (Nat × Nat)} {x : Nat × Nat} {bx fg : Nat}
    (hbx : bx < W0.heap.size) (hfg : fg < W0.heap.size) (hbr : bx ≠ rb) (hfr : fg ≠ rb) (hbc : cm.ownBlock ≠ some bx) (hfc : cm.ownBlock ≠ some fg)
    (hB : But rb cm W0 W) (hrc : Row W cm cs) {v : Value} (hrep : W.heap[rb]? = some (.cells (repA cb pref v out) 61)) (hrv : Row W v (cs ++ pre.map (·.2))) (hv : ∀ k, v.ownBlock = some k → cm.ownBlock = some k ∨ W0.heap.size ≤ k)
    {g cap : Nat} {w1 : World} (h2 : Row w1 (.slice (some ⟨g, 0, none⟩) ((cs ++ pre.map (·.2)).length + 1) cap) (cs ++ pre.map (·.2) ++ [x.2])) (h3 : Keep v (cs ++ pre.map (·.2)).length (W.drew.alloc (.cells #[pv x.2] 27)) w1)
    (h4 : v.ownBlock = some g ∨ g = W.heap.size + 1) :
    KeepsFrom W0.heap.size W (w1.setCell ⟨rb, 14, none⟩ (.slice (some ⟨g, 0, none⟩) ((cs ++ pre.map (·.2)).length + 1) cap)) ∧
    Kb bx fg W (w1.setCell ⟨rb, 14, none⟩ (.slice (some ⟨g, 0, none⟩) ((cs ++ pre.map (·.2)).length + 1) cap)) ∧
    Rd rb cb pref cm out cs W0 (pre ++ [x]) (w1.setCell ⟨rb, 14, none⟩ (.slice (some ⟨g, 0, none⟩) ((cs ++ pre.map (·.2)).length + 1) cap)) := by
  have rowNe : ∀ {u : Value} {l : List Nat} {k : Nat} {c : Array Value} {t : TypeId}, Row W u l → W.heap[k]? = some (.cells c t) → t ≠ 27 → u.ownBlock ≠ some k := by
    intro u l k c t hr hk ht e
    obtain ⟨cur, hc⟩ := hr.lt k e
    rw [hk] at hc
    cases hc
    exact ht rfl
  have s1 : W.heap.size ≤ w1.heap.size := Nat.le_trans (by simp) h3.size
  have st : ∀ k, k < W.heap.size → k ≠ rb → v.ownBlock ≠ some k → (w1.setCell ⟨rb, 14, none⟩ (.slice (some ⟨g, 0, none⟩) ((cs ++ pre.map (·.2)).length + 1) cap)).heap[k]? = W.heap[k]? := by
    intro k hk e1 e2
    rw [setCell_far _ _ _ _ _ e1, h3.far k (by simp; omega) e2]
    exact Below.heap_alloc W.drew _ k hk
  have hrb1 : w1.heap[rb]? = some (.cells (repA cb pref v out) 61) := by
    rw [h3.far rb (by have := lt_of_heap hrep; simp; omega) (rowNe hrv hrep (by decide))]
    exact (Below.heap_alloc W.drew _ rb (lt_of_heap hrep)).trans hrep
  have vNe : ∀ k, k < W0.heap.size → cm.ownBlock ≠ some k → v.ownBlock ≠ some k := fun k hk e1 e2 => by
    rcases hv k e2 with h | h
    · exact e1 h
    · omega
  have hg1 : ∃ cur, w1.heap[g]? = some (.cells cur 27) := h2.lt g rfl
  have gNe : g ≠ rb := by
    rintro rfl
    obtain ⟨cur, hc⟩ := hg1
    rw [hrb1] at hc
    cases hc
  have row1 : ∀ {u : Value} {l : List Nat}, Row w1 u l → (∀ k, u.ownBlock = some k → k ≠ rb) → Row (w1.setCell ⟨rb, 14, none⟩ (.slice (some ⟨g, 0, none⟩) ((cs ++ pre.map (·.2)).length + 1) cap)) u l :=
    fun h hk => h.same (fun k e => setCell_far _ _ _ _ _ (hk k e))
  refine ⟨⟨by simpa using s1, ?_⟩, ⟨st bx (Nat.lt_of_lt_of_le hbx hB.size) hbr (vNe bx hbx hbc), st fg (Nat.lt_of_lt_of_le hfg hB.size) hfr (vNe fg hfg hfc)⟩, ⟨?_, ?_, .slice (some ⟨g, 0, none⟩) ((cs ++ pre.map (·.2)).length + 1) cap, ?_, ?_, ?_⟩⟩
  · intro k o hk ho hc
    have e1 : k ≠ rb := by
      rintro rfl
      rw [hrep] at ho
      cases ho
      cases hc
    have e2 : v.ownBlock ≠ some k := by
      intro e
      obtain ⟨cur, hcu⟩ := hrv.lt k e
      rw [ho] at hcu
      cases hcu
      cases hc
    exact (st k (lt_of_heap ho) e1 e2).trans ho
  · exact ⟨h3.os.trans hB.os, h3.tape.trans hB.tape, h3.output.trans hB.output, Nat.le_trans hB.size (by simpa using s1), fun k hk e1 e2 => (st k (Nat.lt_of_lt_of_le hk hB.size) e1 (vNe k hk e2)).trans (hB.far k hk e1 e2)⟩
  · have r1 : Row (W.drew.alloc (.cells #[pv x.2] 27)) cm cs := hrc.same (fun k e => by obtain ⟨c, hc⟩ := hrc.lt k e; exact Below.heap_alloc W.drew _ k (lt_of_heap hc))
    refine row1 (r1.keep h3 (by simp)) (fun k e => ?_)
    rintro rfl
    exact rowNe hrc hrep (by decide) e
  · rw [heap_setCell_at hrb1, repA_setCom]
  · rw [List.map_append, ← List.append_assoc]
    exact row1 h2 (fun k e => by simp only [Value.ownBlock, Option.some.injEq] at e; rw [← e]; exact gNe)
  · intro k e
    simp only [Value.ownBlock, Option.some.injEq] at e
    subst e
    rcases h4 with h | h
    · exact hv _ h
    · right; have := hB.size; omega

/-- The step is taken: b's chain extends what was committed. -/
def Takes (L : Nat → Nat) (cs : List Nat) (C H : Nat) : Prop := C < H ∧ (C = 0 ∨ cs.getD (C - 1) 0 = L C)

/-- what commit leaves -/
def Left (rb cb N n : Nat) (pref : Int) (cm : Value) (L B : Nat → Nat) (cs : List Nat) (w : World) (C H c1 c2 q : Nat) (w' : World) : Prop :=
  (¬ Takes L cs C H ∧ Below w.heap.size w w') ∨
  (Takes L cs C H ∧ ∃ v ob, St rb cb N n pref v (pv ob) L B (cs ++ up L C H) w' ∧ Row w' cm cs ∧ But rb cm w w' ∧ w.heap.size ≤ ob ∧ w'.heap[ob]? = some (.cells #[pv (B H), pv c1, pv c2, pv q] 41) ∧ ∀ k, v.ownBlock = some k → cm.ownBlock = some k ∨ w.heap.size ≤ k)

/-- the end: 'r.output = &Commit{..}' behind the range, and the mark of the range taken away -/
theorem finish {rb cb N n : Nat} {pref : Int} {cm out : Value} {L B : Nat → Nat} {cs : List Nat} {w W0 W : World} {C H c1 c2 q D : Nat}
    (hs : St rb cb N n pref cm out L B cs w) (hb0 : Below w.heap.size w W0) (hR : Rd rb cb pref cm out cs W0 (dn (frs L H C) 0) W) (ht : Takes L cs C H) (hD : W0.heap.size ≤ D) (hK : W.heap[D]? = some (.deferred (some []))) (hH : H ≤ n) :
    Left rb cb N n pref cm L B cs w C H c1 c2 q (((W.drew.alloc (.cells #[pv (B H), pv c1, pv c2, pv q] 41)).setCell ⟨rb, 15, none⟩ (pv W.heap.size)).putObj D (.deferred none)) := by
  obtain ⟨hB, hrc, v, hrep, hrv, hv⟩ := hR
  rw [dn_all, frs_rev] at hrv
  have far : ∀ k, k < W.heap.size → k ≠ rb → k ≠ D → (((W.drew.alloc (.cells #[pv (B H), pv c1, pv c2, pv q] 41)).setCell ⟨rb, 15, none⟩ (pv W.heap.size)).putObj D (.deferred none)).heap[k]? = W.heap[k]? := by
    intro k hk e1 e2
    have : (((W.drew.alloc (.cells #[pv (B H), pv c1, pv c2, pv q] 41)).setCell ⟨rb, 15, none⟩ (pv W.heap.size)).putObj D (.deferred none)).heap[k]? = ((W.drew.alloc (.cells #[pv (B H), pv c1, pv c2, pv q] 41)).setCell ⟨rb, 15, none⟩ (pv W.heap.size)).heap[k]? := by
      simp [World.putObj, Ne.symm e2]
    rw [this, setCell_far _ _ _ _ _ e1]
    exact Below.heap_alloc W.drew _ k hk
  have cD : ∀ {k : Nat} {c : Array Value} {t : TypeId}, W.heap[k]? = some (.cells c t) → k ≠ D := by
    rintro k c t hk rfl
    rw [hK] at hk
    cases hk
  have cell : ∀ {k : Nat} {c : Array Value} {t : TypeId}, W.heap[k]? = some (.cells c t) → k ≠ rb → (((W.drew.alloc (.cells #[pv (B H), pv c1, pv c2, pv q] 41)).setCell ⟨rb, 15, none⟩ (pv W.heap.size)).putObj D (.deferred none)).heap[k]? = some (.cells c t) :=
    fun hk e => (far _ (lt_of_heap hk) e (cD hk)).trans hk
  have rowNe : ∀ {u : Value} {l : List Nat}, Row W u l → ∀ k, u.ownBlock = some k → k ≠ rb := by
    rintro u l hr k e rfl
    obtain ⟨cur, hc⟩ := hr.lt k e
    rw [hrep] at hc
    cases hc
  have row' : ∀ {u : Value} {l : List Nat}, Row W u l → Row (((W.drew.alloc (.cells #[pv (B H), pv c1, pv c2, pv q] 41)).setCell ⟨rb, 15, none⟩ (pv W.heap.size)).putObj D (.deferred none)) u l := fun {u l} h => h.same (fun g e => by
    obtain ⟨c, hc⟩ := h.lt g e
    exact far _ (lt_of_heap hc) (rowNe h g e) (cD hc))
  have hrbw := lt_of_heap hs.rep
  -- what lay in w, but for the replica and the row
  have old : ∀ {k : Nat} {o : Obj}, w.heap[k]? = some o → k ≠ rb → cm.ownBlock ≠ some k → (((W.drew.alloc (.cells #[pv (B H), pv c1, pv c2, pv q] 41)).setCell ⟨rb, 15, none⟩ (pv W.heap.size)).putObj D (.deferred none)).heap[k]? = some o := by
    intro k o hk e1 e2
    have l1 := lt_of_heap hk
    have l2 := hb0.size
    have l3 := hB.size
    rw [far k (by omega) e1 (by omega), hB.far k (by omega) e1 e2, hb0.block k l1]
    exact hk
  have cmNe : ∀ {k : Nat} {o : Obj}, w.heap[k]? = some o → (∀ c, o ≠ .cells c 27) → cm.ownBlock ≠ some k := by
    intro k o hk ho e
    obtain ⟨c, hc⟩ := hs.row.lt k e
    rw [hk] at hc
    cases hc
    exact ho c rfl
  have rbNe : ∀ {k : Nat} {o : Obj}, w.heap[k]? = some o → (∀ c, o ≠ .cells c 61) → k ≠ rb := by
    rintro k o hk ho rfl
    rw [hs.rep] at hk
    cases hk
    exact ho _ rfl
  refine .inr ⟨ht, v, W.heap.size, ⟨?_, ?_, ⟨?_, ?_, ?_, ?_, hs.inv.inj⟩, row' hrv, ?_, ?_⟩, row' hrc, ⟨hB.os.trans hb0.os, hB.tape.trans hb0.tape, hB.output.trans hb0.output, ?_, ?_⟩, ?_, ?_, fun k e => (hv k e).imp id (fun h => Nat.le_trans hb0.size h)⟩
  · have e1 : (W.drew.alloc (.cells #[pv (B H), pv c1, pv c2, pv q] 41)).heap[rb]? = some (.cells (repA cb pref v out) 61) := (Below.heap_alloc W.drew _ rb (lt_of_heap hrep)).trans hrep
    have e2 : (((W.drew.alloc (.cells #[pv (B H), pv c1, pv c2, pv q] 41)).setCell ⟨rb, 15, none⟩ (pv W.heap.size)).putObj D (.deferred none)).heap[rb]? = ((W.drew.alloc (.cells #[pv (B H), pv c1, pv c2, pv q] 41)).setCell ⟨rb, 15, none⟩ (pv W.heap.size)).heap[rb]? := by
      have := cD hrep
      simp [World.putObj, Ne.symm this]
    rw [e2, heap_setCell_at e1, repA_setOut]
  · exact old hs.chn (rbNe hs.chn (fun c => by simp)) (cmNe hs.chn (fun c => by simp))
  · exact old hs.inv.map (rbNe hs.inv.map (fun c => by simp)) (cmNe hs.inv.map (fun c => by simp))
  · exact old hs.inv.row (rbNe hs.inv.row (fun c => by simp)) hs.mn
  · intro j hj
    exact old (hs.inv.link j hj) (rbNe (hs.inv.link j hj) (fun c => by simp)) (cmNe (hs.inv.link j hj) (fun c => by simp))
  · intro j hj
    exact old (hs.inv.blk j hj) (rbNe (hs.inv.blk j hj) (fun c => by simp)) (cmNe (hs.inv.blk j hj) (fun c => by simp))
  · intro x hx
    rcases List.mem_append.1 hx with hx | hx
    · obtain ⟨c, hc⟩ := hs.lnk x hx
      exact ⟨c, old hc (rbNe hc (fun c => by simp)) (cmNe hc (fun c => by simp))⟩
    · simp only [up, List.mem_map, List.mem_range] at hx
      obtain ⟨t, ht', rfl⟩ := hx
      have hl := hs.inv.link (C + 1 + t) (by omega)
      exact ⟨_, old hl (rbNe hl (fun c => by simp)) (cmNe hl (fun c => by simp))⟩
  · intro e
    rcases hv _ e with h | h
    · exact hs.mn h
    · have := lt_of_heap hs.inv.row
      have := hb0.size
      omega
  · have := hb0.size
    have := hB.size
    simp [World.putObj]
    omega
  · intro k hk e1 e2
    have l2 := hb0.size
    have l3 := hB.size
    rw [far k (by omega) e1 (by omega), hB.far k (by omega) e1 e2, hb0.block k hk]
  · have := hb0.size
    have := hB.size
    omega
  · have e1 : W.heap.size ≠ D := by have := lt_of_heap hK; omega
    have e2 : W.heap.size ≠ rb := by have := lt_of_heap hrep; omega
    have : (((W.drew.alloc (.cells #[pv (B H), pv c1, pv c2, pv q] 41)).setCell ⟨rb, 15, none⟩ (pv W.heap.size)).putObj D (.deferred none)).heap[W.heap.size]? = ((W.drew.alloc (.cells #[pv (B H), pv c1, pv c2, pv q] 41)).setCell ⟨rb, 15, none⟩ (pv W.heap.size)).heap[W.heap.size]? := by
      simp [World.putObj, Ne.symm e1]
    rw [this, setCell_far _ _ _ _ _ e2]
    exact heap_alloc_new W.drew _

end Go.Proofs.Ybulkbqtq
