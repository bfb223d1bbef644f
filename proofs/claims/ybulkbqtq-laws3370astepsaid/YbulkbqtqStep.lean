import Derived.Test.YbulkbqtqBuild
import Derived.Test.YbulkbqtqCommit
namespace Go.Proofs.Ybulkbqtq
open Go.RowKit
attribute [local go_sem ↓] fold_bld
attribute [local go_sem] run_sB0 run_sB1 run_sB2 run_sL3 run_sL2 run_sQ run_r4 run_c1 run_o0

/-- what is asked of the slice 'committed' -/
structure Cm (fork : Bool) (L : Nat → Nat) (s0 : Nat) (cs : List Nat) (v : Value) (w : World) : Prop where
  row : Row w v cs
  lnk : ∀ x, x ∈ cs → ∃ c, w.heap[x]? = some (.cells c 38)
  own : ∀ k, v.ownBlock = some k → s0 ≤ k
  main : fork = false → cs = (List.range cs.length).map fun t => L (t + 1)
  other : fork = true → ∀ x, x ∈ cs → s0 ≤ x

theorem Row.up {w w' : World} {v : Value} {cs : List Nat} (h : Row w v cs) (hb : Below w.heap.size w w') : Row w' v cs :=
  h.same fun g e => by obtain ⟨c, hc⟩ := h.lt g e; exact hb.block _ (lt_of_heap hc)

theorem cm_start (fork : Bool) (L : Nat → Nat) (C : Nat) (hC : C < 300) (w1 : World) : Cm fork L w1.heap.size [] (.slice (some ⟨w1.heap.size, 0, none⟩) 0 C) (w1.alloc (.cells (nils C) 27)) := by
  refine ⟨.inr ⟨w1.heap.size, C, nils C, rfl, heap_alloc_new w1 _, by simp, by unfold maxLen; omega, by simp [nils], by simp⟩, fun x hx => (by cases hx), fun k e => ?_, fun _ => rfl, fun _ x hx => (by cases hx)⟩
  simp only [Value.ownBlock, Option.some.injEq] at e
  omega

/-- one element more -/
theorem Cm.more {fork : Bool} {L : Nat → Nat} {s0 : Nat} {cs : List Nat} {v : Value} {w W w1 : World} {x g cap : Nat} (h : Cm fork L s0 cs v w) (hW : Below w.heap.size w W) (hk : Keep v cs.length W w1)
    (hr : Row w1 (.slice (some ⟨g, 0, none⟩) (cs.length + 1) cap) (cs ++ [x])) (hg : v.ownBlock = some g ∨ g = W.heap.size) (hx : ∃ c, W.heap[x]? = some (.cells c 38)) (hs : s0 ≤ w.heap.size)
    (h1 : fork = false → x = L (cs.length + 1)) (h2 : fork = true → s0 ≤ x) : Cm fork L s0 (cs ++ [x]) (.slice (some ⟨g, 0, none⟩) (cs.length + 1) cap) w1 := by
  have far : ∀ {k : Nat} {c : Array Value}, W.heap[k]? = some (.cells c 38) → w1.heap[k]? = some (.cells c 38) := by
    intro k c hc
    refine (hk.far k (lt_of_heap hc) (fun e => ?_)).trans hc
    obtain ⟨c', hc'⟩ := (h.row.up hW).lt k e
    rw [hc] at hc'
    cases hc'
  refine ⟨hr, fun y hy => ?_, fun k e => ?_, fun hf => ?_, fun hf y hy => ?_⟩
  · rcases List.mem_append.1 hy with hy | hy
    · obtain ⟨c, hc⟩ := h.lnk y hy
      exact ⟨c, far ((hW.block _ (lt_of_heap hc)).trans hc)⟩
    · obtain rfl : y = x := by simpa using hy
      obtain ⟨c, hc⟩ := hx
      exact ⟨c, far hc⟩
  · simp only [Value.ownBlock, Option.some.injEq] at e
    subst e
    rcases hg with e | e
    · exact h.own _ e
    · have := hW.size
      omega
  · rw [List.length_append, List.length_singleton, List.range_succ, List.map_append, ← h.main hf, h1 hf]
    rfl
  · rcases List.mem_append.1 hy with hy | hy
    · exact h.other hf y hy
    · obtain rfl : y = x := by simpa using hy
      exact h2 hf

/-- the eight blocks that are laid ahead of the call of commit -/
def laid (w : World) (N round : Int) (mb : Nat) (va : Option Addr) (n vc : Nat) : World :=
  ((((((((w.alloc (Obj.cells #[Value.pointer none, Value.pointer none, Value.pointer none, Value.pointer none] 41)).alloc (Obj.cells (chnA mb) 47)).alloc
    (Obj.cells (repA (w.heap.size + 1) round (Value.slice va n vc) (Value.pointer (some { block := w.heap.size, off := 0 }))) 61)).alloc (Obj.cells (bkA (-1) z32) 35)).alloc
    (Obj.cells (lkA (some { block := w.heap.size + 1 + 1 + 1, off := 0 }) z32 (-1)) 38)).alloc (Obj.cells (bkA (-2) z32) 35)).alloc
    (Obj.cells (lkA (some { block := w.heap.size + 1 + 1 + 1 + 1 + 1, off := 0 }) z32 (-2)) 38)).alloc (Obj.cells (qcA N) 66))

structure Laid (w : World) (N round : Int) (mb : Nat) (va : Option Addr) (n vc : Nat) (W : World) : Prop where
  below : Below w.heap.size w W
  size : W.heap.size = w.heap.size + 8
  prev : ∃ c, W.heap[w.heap.size]? = some (.cells c 41)
  chn : W.heap[w.heap.size + 1]? = some (.cells (chnA mb) 47)
  rep : W.heap[w.heap.size + 1 + 1]? = some (.cells (repA (w.heap.size + 1) round (.slice va n vc) (pv w.heap.size)) 61)
  blk1 : ∃ c, W.heap[w.heap.size + 1 + 1 + 1]? = some (.cells c 35)
  lnk1 : W.heap[w.heap.size + 1 + 1 + 1 + 1]? = some (.cells (lkA (some ⟨w.heap.size + 1 + 1 + 1, 0, none⟩) z32 (-1)) 38)
  blk2 : ∃ c, W.heap[w.heap.size + 1 + 1 + 1 + 1 + 1]? = some (.cells c 35)
  lnk2 : W.heap[w.heap.size + 1 + 1 + 1 + 1 + 1 + 1]? = some (.cells (lkA (some ⟨w.heap.size + 1 + 1 + 1 + 1 + 1, 0, none⟩) z32 (-2)) 38)
  qc : ∃ c, W.heap[w.heap.size + 1 + 1 + 1 + 1 + 1 + 1 + 1]? = some (.cells c 66)

theorem laid_facts (w : World) (N round : Int) (mb : Nat) (va : Option Addr) (n vc : Nat) : Laid w N round mb va n vc (laid w N round mb va n vc) := by
  unfold laid
  refine ⟨?_, by simp, ⟨#[.pointer none, .pointer none, .pointer none, .pointer none], ?_⟩, ?_, ?_, ⟨bkA (-1) z32, ?_⟩, ?_, ⟨bkA (-2) z32, ?_⟩, ?_, ⟨qcA N, ?_⟩⟩
  · repeat (first | exact Below.refl _ _ | refine Below.alloc ?_ (by first | (simp; done) | (simp; omega)) _)
  · iterate 7 refine old _ _ _ _ ?_
    exact new _ _ _ (by simp)
  · iterate 6 refine old _ _ _ _ ?_
    exact new _ _ _ (by simp)
  · iterate 5 refine old _ _ _ _ ?_
    exact new _ _ _ (by simp)
  · iterate 4 refine old _ _ _ _ ?_
    exact new _ _ _ (by simp)
  · iterate 3 refine old _ _ _ _ ?_
    exact new _ _ _ (by simp)
  · iterate 2 refine old _ _ _ _ ?_
    exact new _ _ _ (by simp)
  · refine old _ _ _ _ ?_
    exact new _ _ _ (by simp)
  · exact new _ _ _ (by simp)

set_option maxRecDepth 100000 in
set_option maxHeartbeats 1000000 in
theorem step_any (a0 a1 a2 : Int) (fork : Bool) (round : Int) (N C H : Nat) (w : World) (b0 : 0 ≤ a0) (b0' : a0 ≤ 65535) (b1 : 0 ≤ a1) (b1' : a1 ≤ 65535) (b2 : 0 ≤ a2) (b2' : a2 ≤ 65535)
    (eN : a0 % 300 = (N : Int)) (eC : a1 % ((N : Int) + 1) = (C : Int)) (eH : a2 % ((N : Int) + 1) = (H : Int)) (hN : N < 300) (hC : C ≤ N) (hH : H ≤ N) :
    Calls Yba.prog 3 #[.int .u16 a0, .int .u16 a1, .int .u16 a2, .bool fork, .int .i64 round] w fun e w' => e = .returned (.bool true) ∧ Below w.heap.size w w' := by
  have hmk : ∀ w, (Instr.makeSlice 24 (.int .i64 0) (.int .i64 C)).run Yba.prog w = .ok (.slice (some ⟨w.heap.size, 0, none⟩) 0 C) (w.alloc (.cells (nils C) 27)) := fun w => by
    have := run_makeLinks w 0 (C : Int) (by omega) (by omega) (by omega)
    simpa using this
  go_enter Yba.func3, Yba.ntmps3
  go_wp2_with (go_at_call 5; refine (build_any N _ hN).mono ?_; rintro e w1 ⟨rfl, ⟨L, B, hi⟩, hb⟩)
  go_loopg [16, 17] C (fun g v i wr => ∃ cs : List Nat, cs.length ≤ C ∧ g = C - cs.length ∧ i = .int .i64 ((cs.length : Int) + 1) ∧ Cm fork L w1.heap.size cs v wr ∧ Below w1.heap.size w1 wr)
  case atStart => exact ⟨[], by simp, by simp, rfl, cm_start fork L C (by omega) w1, (Below.refl _ _).alloc (Nat.le_refl _) _⟩
  case round =>
    obtain ⟨cs, hlc, hg, rfl, hcm, hbe⟩ := hrel
    have hg' := hide hg
    clear hg
    by_cases hlt : cs.length < C
    · have hsz := hbe.size
      cases fork with
      | true =>
        go_wp2_with (first
          | (go_at_call 6; refine (hash_any _ _ (by omega) (by omega)).mono ?_; rintro e w' ⟨rfl, rfl⟩)
          | (at_builtin; refine wpList_app rfl _ _ rfl rfl _ cs rfl (hcm.row.up (by repeat (first | exact Below.refl _ _ | refine Below.alloc ?_ (by first | (simp; done) | (simp; omega)) _))) _ _ rfl (new _ _ _ (by simp)) (by omega) ?_; intro g cap w2 hrow2 hkeep hat))
        go_roundg (C - (cs.length + 1))
        case measure => have := unhide hg'; omega
        case rel =>
          refine ⟨cs ++ [wr.heap.size + 1 + 1 + 1], by simp; omega, by simp, by simp, ?_, ?_⟩
          · refine hcm.more ?_ hkeep hrow2 hat ⟨_, old _ _ _ _ (new _ _ _ (by simp))⟩ hsz (fun h => by cases h) (fun _ => by omega)
            repeat (first | exact Below.refl _ _ | refine Below.alloc ?_ (by first | (simp; done) | (simp; omega)) _)
          · refine hkeep.below (hbe.trans (Below.mono ?_ hsz)) ?_ (fun k e => hcm.own k e)
            · repeat (first | exact Below.refl _ _ | refine Below.alloc ?_ (by first | (simp; done) | (simp; omega)) _)
            · simp; omega
      | false =>
        have hc1 : wr.cell? ⟨w.heap.size + 1, cs.length + 1, none⟩ = some (pv (L (cs.length + 1))) := by
          rw [cell_of_heap (hi.below hbe).row]; exact rowA_get L (by omega) (by omega)
        have q1 : (cs.length : Int) + 1 < (N : Int) + 1 := by omega
        go_wp2_with (at_builtin; refine wpList_app rfl _ _ rfl rfl _ cs rfl (hcm.row.up (by repeat (first | exact Below.refl _ _ | refine Below.alloc ?_ (by first | (simp; done) | (simp; omega)) _))) _ _ rfl (new _ _ _ (by simp)) (by omega) ?_; intro g cap w2 hrow2 hkeep hat)
        go_roundg (C - (cs.length + 1))
        case measure => have := unhide hg'; omega
        case rel =>
          refine ⟨cs ++ [L (cs.length + 1)], by simp; omega, by simp, by simp, ?_, ?_⟩
          · refine hcm.more ?_ hkeep hrow2 hat ⟨_, old _ _ _ _ ((hi.below hbe).link (cs.length + 1) (by omega))⟩ hsz (fun _ => rfl) (fun h => by cases h)
            repeat (first | exact Below.refl _ _ | refine Below.alloc ?_ (by first | (simp; done) | (simp; omega)) _)
          · refine hkeep.below (hbe.trans (Below.mono ?_ hsz)) ?_ (fun k e => hcm.own k e)
            · repeat (first | exact Below.refl _ _ | refine Below.alloc ?_ (by first | (simp; done) | (simp; omega)) _)
            · simp; omega
    · obtain rfl : C = cs.length := by omega
      clear hg' hlt hmk hlc
      have hcH : wr.cell? ⟨w.heap.size + 1, H, none⟩ = some (pv (L H)) := by
        rw [cell_of_heap (hi.below hbe).row]; exact rowA_get L (by omega) (by omega)
      obtain ⟨va, vc, hv⟩ := hcm.row.form
      subst hv
      have q0 : (H : Int) < (N : Int) + 1 := by omega
      go_upto_region 18 with fail
      have hL := laid_facts wr round round w.heap.size va cs.length vc
      obtain ⟨W, hW⟩ : ∃ W, laid wr round round w.heap.size va cs.length vc = W := ⟨_, rfl⟩
      rw [hW] at hL
      unfold laid at hW
      rw [hW]
      clear hW
      have hbW : Below w1.heap.size w1 W := hbe.trans (hL.below.mono hbe.size)
      have hs : St (wr.heap.size + 1 + 1) (wr.heap.size + 1) w.heap.size N round (.slice va cs.length vc) (pv wr.heap.size) L B cs W :=
        ⟨hL.rep, hL.chn, hi.below hbW, hcm.row.up hL.below, fun x hx => by obtain ⟨c, hc⟩ := hcm.lnk x hx; exact ⟨c, (hL.below.block _ (lt_of_heap hc)).trans hc⟩, fun e => by have := hcm.own _ e; have := lt_of_heap hi.row; omega⟩
      have hcH' : W.cell? ⟨w.heap.size + 1, H, none⟩ = some (pv (L H)) := by rw [cell_of_heap hs.inv.row]; exact rowA_get L (by omega) (by omega)
      clear hcH
      have htk : Takes L cs cs.length H ↔ cs.length < H ∧ (cs.length = 0 ∨ fork = false) := by
        unfold Takes
        refine and_congr_right fun hlt => ?_
        by_cases h0 : cs.length = 0
        · simp [h0]
        · simp only [h0, false_or]
          have hlt' : cs.length - 1 < cs.length := by omega
          have hmem : cs.getD (cs.length - 1) 0 ∈ cs := by
            rw [List.getD_eq_getElem?_getD, List.getElem?_eq_getElem hlt']
            exact List.getElem_mem hlt'
          cases fork with
          | true =>
            have h1 := hcm.other rfl _ hmem
            have h2 := lt_of_heap (hi.link cs.length (by omega))
            constructor
            · intro e
              rw [e] at h1
              omega
            · intro e
              cases e
          | false =>
            have e := hcm.main rfl
            have e2 : cs.getD (cs.length - 1) 0 = ((List.range cs.length).map fun t => L (t + 1)).getD (cs.length - 1) 0 := by rw [← e]
            rw [e2]
            simp [hlt', show cs.length - 1 + 1 = cs.length by omega]
      obtain ⟨cp, hcp⟩ := hL.prev
      obtain ⟨k1, hk1⟩ := hL.blk1
      obtain ⟨k2, hk2⟩ := hL.blk2
      obtain ⟨cq, hcq⟩ := hL.qc
      go_wp2_with fail
      refine (commit_any (wr.heap.size + 1 + 1) (wr.heap.size + 1) w.heap.size N round (.slice va cs.length vc) (pv wr.heap.size) L B cs W hs hN cs.length (hide rfl) (by omega) H hH (wr.heap.size + 1 + 1 + 1 + 1) (wr.heap.size + 1 + 1 + 1 + 1 + 1 + 1)
        (wr.heap.size + 1 + 1 + 1 + 1 + 1 + 1 + 1) (wr.heap.size + 1 + 1 + 1) (wr.heap.size + 1 + 1 + 1 + 1 + 1) _ _ hL.lnk1 (lkA_get0 _ _ _) hL.lnk2 (lkA_get0 _ _ _)).mono ?_
      rintro e w3 ⟨rfl, hl⟩
      rcases hl with ⟨hnt, hbel⟩ | ⟨ht, v, ob, hs3, hrow3, hbut, hob, hoc, _⟩
      · rw [htk] at hnt
        have hs3 := hs.below hbel
        have x1 : w3.cell? ⟨wr.heap.size + 1 + 1, 10, none⟩ = some (pv (wr.heap.size + 1)) := by rw [cell_of_heap hs3.rep]; exact repA_chain _ _ _ _
        have x2 : w3.cell? ⟨wr.heap.size + 1 + 1, 12, none⟩ = some (.int .i64 round) := by rw [cell_of_heap hs3.rep]; exact repA_pref _ _ _ _
        have x3 : w3.cell? ⟨wr.heap.size + 1 + 1, 14, none⟩ = some (.slice va cs.length vc) := by rw [cell_of_heap hs3.rep]; exact repA_com _ _ _ _
        have x4 : w3.cell? ⟨wr.heap.size + 1 + 1, 15, none⟩ = some (pv wr.heap.size) := by rw [cell_of_heap hs3.rep]; exact repA_out _ _ _ _
        have n1 : ∀ k, (binOp .neq 42 (pv (wr.heap.size + 1)) (pv (wr.heap.size + 1))).run Yba.prog (w3.drewN k) = .ok (.bool false) (w3.drewN k) := fun k => by
          rw [run_neq (w3.drewN k) 42 47 5 Yba.underlying42 size47 _ _ hs3.chn hs3.chn]; simp
        have hp3 := (hbel.block _ (lt_of_heap hcp)).trans hcp
        have n2 : ∀ k, (binOp .neq 39 (pv wr.heap.size) (pv wr.heap.size)).run Yba.prog (w3.drewN k) = .ok (.bool false) (w3.drewN k) := fun k => by
          rw [run_neq (w3.drewN k) 39 41 3 Yba.underlying39 size41 _ _ hp3 hp3]; simp
        have n1' : (binOp .neq 42 (pv (wr.heap.size + 1)) (pv (wr.heap.size + 1))).run Yba.prog w3 = .ok (.bool false) w3 := n1 0
        have n2' : (binOp .neq 39 (pv wr.heap.size) (pv wr.heap.size)).run Yba.prog w3 = .ok (.bool false) w3 := n2 0
        have hbf : Hid (Below w.heap.size w w3) := hb.trans ((hbW.trans (hbel.mono hbW.size)).mono hb.size)
        clear hcm hs hL hbW hbel hcp hk1 hk2 hcq hcH' htk hp3 hbe hi hb
        have hcase : ¬ (cs.length : Int) < (H : Int) ∨ ((cs.length : Int) < (H : Int) ∧ ((cs.length : Int) == 0) = false ∧ fork = true) := by
          by_cases h1 : cs.length < H
          · right
            refine ⟨by omega, ?_, ?_⟩
            · simp; intro e; exact hnt ⟨h1, .inl (by simp [e])⟩
            · cases fork with
              | true => rfl
              | false => exact absurd ⟨h1, .inr rfl⟩ hnt
          · left; omega
        clear hnt
        rcases hcase with q5 | ⟨q5, q6, rfl⟩
        all_goals
          go_wp2_with fail
          go_loopg [25] cs.length (fun g i wl => ∃ j k : Nat, j ≤ cs.length ∧ g = cs.length - j ∧ i = .int .i64 (j : Int) ∧ wl = w3.drewN k)
          case atStart => exact ⟨0, 0, by omega, by omega, rfl, rfl⟩
          case round =>
            obtain ⟨j, k, hj, hgj, rfl, rfl⟩ := hrel
            have hgj' := hide hgj
            clear hgj
            by_cases hlt : j < cs.length
            · obtain ⟨cg, cc', hcf⟩ := hs3.row.formPos (by omega)
              obtain rfl : va = some ⟨cg, 0, none⟩ := by simp at hcf; exact hcf.1
              have x5 := hs3.row.at hlt
              have hmem : cs.getD j 0 ∈ cs := by
                rw [List.getD_eq_getElem?_getD, List.getElem?_eq_getElem hlt]
                exact List.getElem_mem hlt
              obtain ⟨lx, hlx⟩ := hs3.lnk _ hmem
              obtain ⟨X, hX⟩ : ∃ X, cs.getD j 0 = X := ⟨_, rfl⟩
              rw [hX] at x5 hlx
              have n3 : ∀ k, (binOp .neq 27 (pv X) (pv X)).run Yba.prog (w3.drewN k) = .ok (.bool false) (w3.drewN k) := fun k => by
                rw [run_neq (w3.drewN k) 27 38 33 Yba.underlying27 size38 _ _ hlx hlx]; simp
              have q7 : (0 : Int) ≤ (j : Int) := by omega
              have q8 : (j : Int) < (cs.length : Int) := by omega
              clear hcf hX hmem hlx
              go_upto_region 28 with fail
              go_quiet (fail)
              go_wp2_with fail
              go_roundg (cs.length - (j + 1))
              case measure => have := unhide hgj'; omega
              case rel => exact ⟨j + 1, _, by omega, rfl, by go_num, rfl⟩
            · obtain rfl : j = cs.length := by omega
              go_wp2_with fail
              go_ret
              exact ⟨rfl, below_drewN (unhide hbf) _⟩
      · have ht2 := htk.1 ht
        have hlen : (cs ++ up L cs.length H).length = H := by rw [List.length_append, up_len]; omega
        obtain ⟨cg, cc', hcf⟩ := hs3.row.formPos (by rw [hlen]; omega)
        rw [hlen] at hcf
        subst hcf
        have keep : ∀ {k : Nat} {c : Array Value} {t : TypeId}, W.heap[k]? = some (.cells c t) → t ≠ 61 → t ≠ 27 → w3.heap[k]? = some (.cells c t) := by
          intro k c t hk h1 h2
          refine (hbut.far k (lt_of_heap hk) ?_ ?_).trans hk
          · rintro rfl
            rw [hs.rep] at hk
            cases hk
            exact h1 rfl
          · intro e
            obtain ⟨c', hc'⟩ := hs.row.lt k e
            rw [hk] at hc'
            cases hc'
            exact h2 rfl
        have hp3 := keep hcp (by decide) (by decide)
        have hb3 := keep hk1 (by decide) (by decide)
        have hb4 := keep hk2 (by decide) (by decide)
        have hq3 := keep hcq (by decide) (by decide)
        have hl3 := keep hL.lnk1 (by decide) (by decide)
        have hl4 := keep hL.lnk2 (by decide) (by decide)
        have x1 : w3.cell? ⟨wr.heap.size + 1 + 1, 10, none⟩ = some (pv (wr.heap.size + 1)) := by rw [cell_of_heap hs3.rep]; exact repA_chain _ _ _ _
        have x2 : w3.cell? ⟨wr.heap.size + 1 + 1, 12, none⟩ = some (.int .i64 round) := by rw [cell_of_heap hs3.rep]; exact repA_pref _ _ _ _
        have x3 : w3.cell? ⟨wr.heap.size + 1 + 1, 14, none⟩ = some (.slice (some ⟨cg, 0, none⟩) H cc') := by rw [cell_of_heap hs3.rep]; exact repA_com _ _ _ _
        have x4 : w3.cell? ⟨wr.heap.size + 1 + 1, 15, none⟩ = some (pv ob) := by rw [cell_of_heap hs3.rep]; exact repA_out _ _ _ _
        have n1 : (binOp .neq 42 (pv (wr.heap.size + 1)) (pv (wr.heap.size + 1))).run Yba.prog w3 = .ok (.bool false) w3 := by
          rw [run_neq w3 42 47 5 Yba.underlying42 size47 _ _ hs3.chn hs3.chn]; simp
        have n2 : (binOp .eql 39 (pv ob) (pv wr.heap.size)).run Yba.prog w3 = .ok (.bool false) w3 := by
          rw [run_eql w3 39 41 3 Yba.underlying39 size41 _ _ hoc hp3]
          have : ob ≠ wr.heap.size := by have := hL.size; omega
          simp [this]
        have y0 : w3.cell? ⟨ob, 0, none⟩ = some (pv (B H)) := by rw [cell_of_heap hoc]; rfl
        have y1 : w3.cell? ⟨ob, 1, none⟩ = some (pv (wr.heap.size + 1 + 1 + 1)) := by rw [cell_of_heap hoc]; rfl
        have y2 : w3.cell? ⟨ob, 2, none⟩ = some (pv (wr.heap.size + 1 + 1 + 1 + 1 + 1)) := by rw [cell_of_heap hoc]; rfl
        have y3 : w3.cell? ⟨ob, 3, none⟩ = some (pv (wr.heap.size + 1 + 1 + 1 + 1 + 1 + 1 + 1)) := by rw [cell_of_heap hoc]; rfl
        have y4 : w3.cell? ⟨w.heap.size + 1, H, none⟩ = some (pv (L H)) := by rw [cell_of_heap hs3.inv.row]; exact rowA_get L (by omega) (by omega)
        have y5 : w3.cell? ⟨L H, 0, none⟩ = some (pv (B H)) := by rw [cell_of_heap (hs3.inv.link H (by omega))]; exact lkA_get0 _ _ _
        have y6 : w3.cell? ⟨wr.heap.size + 1 + 1 + 1 + 1, 0, none⟩ = some (pv (wr.heap.size + 1 + 1 + 1)) := by rw [cell_of_heap hl3]; exact lkA_get0 _ _ _
        have y7 : w3.cell? ⟨wr.heap.size + 1 + 1 + 1 + 1 + 1 + 1, 0, none⟩ = some (pv (wr.heap.size + 1 + 1 + 1 + 1 + 1)) := by rw [cell_of_heap hl4]; exact lkA_get0 _ _ _
        have m1 : ∀ k, (binOp .eql 28 (pv (B H)) (pv (B H))).run Yba.prog (w3.drewN k) = .ok (.bool true) (w3.drewN k) := fun k => by
          rw [run_eql (w3.drewN k) 28 35 36 Yba.underlying28 size35 _ _ (hs3.inv.blk H (by omega)) (hs3.inv.blk H (by omega))]; simp
        have m2 : ∀ k, (binOp .eql 28 (pv (wr.heap.size + 1 + 1 + 1)) (pv (wr.heap.size + 1 + 1 + 1))).run Yba.prog (w3.drewN k) = .ok (.bool true) (w3.drewN k) := fun k => by
          rw [run_eql (w3.drewN k) 28 35 36 Yba.underlying28 size35 _ _ hb3 hb3]; simp
        have m3 : ∀ k, (binOp .eql 28 (pv (wr.heap.size + 1 + 1 + 1 + 1 + 1)) (pv (wr.heap.size + 1 + 1 + 1 + 1 + 1))).run Yba.prog (w3.drewN k) = .ok (.bool true) (w3.drewN k) := fun k => by
          rw [run_eql (w3.drewN k) 28 35 36 Yba.underlying28 size35 _ _ hb4 hb4]; simp
        have m4 : ∀ k, (binOp .eql 31 (pv (wr.heap.size + 1 + 1 + 1 + 1 + 1 + 1 + 1)) (pv (wr.heap.size + 1 + 1 + 1 + 1 + 1 + 1 + 1))).run Yba.prog (w3.drewN k) = .ok (.bool true) (w3.drewN k) := fun k => by
          rw [run_eql (w3.drewN k) 31 66 34 Yba.underlying31 size66 _ _ hq3 hq3]; simp
        have hbf : Hid (Below w.heap.size w w3) := by
          refine hb.trans ⟨hbut.os.trans hbW.os, hbut.tape.trans hbW.tape, hbut.output.trans hbW.output, Nat.le_trans hbW.size hbut.size, fun k hk => ?_⟩
          have l1 := hb.size
          have l2 := hbe.size
          have l3 := hbW.size
          refine (hbut.far k (by omega) (by omega) (fun e => ?_)).trans (hbW.block k (by omega))
          have := hcm.own k e
          omega
        have el : ∀ j, j < H → (cs ++ up L cs.length H).getD j 0 = if j < cs.length then cs.getD j 0 else L (j + 1) := by
          intro j hj
          by_cases h : j < cs.length
          · simp [h, List.getElem?_append_left h]
          · rw [if_neg h, List.getD_eq_getElem?_getD, List.getElem?_append_right (by omega)]
            simp [up, show j - cs.length < H - cs.length by omega, show cs.length + 1 + (j - cs.length) = j + 1 by omega]
        have q5 : (cs.length : Int) < (H : Int) := by omega
        have hcase : ((cs.length : Int) == 0) = true ∨ (((cs.length : Int) == 0) = false ∧ fork = false) := by
          rcases ht2.2 with h | h
          · left; simp [h]
          · by_cases h0 : cs.length = 0
            · left; simp [h0]
            · right; exact ⟨by simpa using h0, h⟩
        clear ht2 ht htk keep hcp hk1 hk2 hcq hL hbut hp3 hb3 hb4 hq3 hl3 hl4 hs hbe hb hbW hoc hob hcm hi
        rcases hcase with q6 | ⟨q6, rfl⟩
        all_goals
          go_wp2_with fail
          go_loopg [26] H (fun g i wl => ∃ j : Nat, j ≤ H ∧ g = H - j ∧ i = .int .i64 (j : Int) ∧ w3 = wl)
          case atStart => exact ⟨0, by omega, by omega, rfl, rfl⟩
          case round =>
            obtain ⟨j, hj, hgj, rfl, rfl⟩ := hrel
            have hgj' := hide hgj
            clear hgj
            by_cases hlt : j < H
            · have z1 : w3.cell? ⟨w.heap.size + 1, j + 1, none⟩ = some (pv (L (j + 1))) := by rw [cell_of_heap hs3.inv.row]; exact rowA_get L (by omega) (by omega)
              have z2 := hs3.row.at (i := j) (by rw [hlen]; omega)
              rw [el j hlt] at z2
              have q7 : (0 : Int) ≤ (j : Int) := by omega
              have q8 : (j : Int) < (H : Int) := by omega
              have q9 : (j : Int) + 1 < (N : Int) + 1 := by omega
              by_cases hjc : j < cs.length
              · rw [if_pos hjc] at z2
                have q10 : (j : Int) < (cs.length : Int) := by omega
                obtain ⟨cg2, cc2, hcf2⟩ := hrow3.formPos (by omega)
                obtain rfl : va = some ⟨cg2, 0, none⟩ := by simp at hcf2; exact hcf2.1
                have z3 := hrow3.at hjc
                have hmem : cs.getD j 0 ∈ cs := by
                  rw [List.getD_eq_getElem?_getD, List.getElem?_eq_getElem hjc]
                  exact List.getElem_mem hjc
                obtain ⟨lx, hlx⟩ := hs3.lnk _ (List.mem_append_left _ hmem)
                obtain ⟨X, hX⟩ : ∃ X, cs.getD j 0 = X := ⟨_, rfl⟩
                rw [hX] at z2 z3 hlx
                have n3 : (binOp .neq 27 (pv X) (pv X)).run Yba.prog w3 = .ok (.bool false) w3 := by
                  rw [run_neq w3 27 38 33 Yba.underlying27 size38 _ _ hlx hlx]; simp
                clear hcf2 hX hmem hlx
                go_wp2_with fail
                go_roundg (H - (j + 1))
                case measure => have := unhide hgj'; omega
                case rel => exact ⟨j + 1, by omega, rfl, by go_num, rfl⟩
              · rw [if_neg hjc] at z2
                have q10 : ¬ (j : Int) < (cs.length : Int) := by omega
                have n3 : (binOp .neq 27 (pv (L (j + 1))) (pv (L (j + 1)))).run Yba.prog w3 = .ok (.bool false) w3 := by
                  rw [run_neq w3 27 38 33 Yba.underlying27 size38 _ _ (hs3.inv.link (j + 1) (by omega)) (hs3.inv.link (j + 1) (by omega))]; simp
                go_wp2_with fail
                go_roundg (H - (j + 1))
                case measure => have := unhide hgj'; omega
                case rel => exact ⟨j + 1, by omega, rfl, by go_num, rfl⟩
            · obtain rfl : j = H := by omega
              have q7 : (0 : Int) ≤ (j : Int) := by omega
              have q9 : (j : Int) < (N : Int) + 1 := by omega
              go_upto_region 44 with fail
              go_quiet (fail)
              go_wp2_with fail
              go_ret
              exact ⟨rfl, below_drewN (unhide hbf) _⟩
end Go.Proofs.Ybulkbqtq
