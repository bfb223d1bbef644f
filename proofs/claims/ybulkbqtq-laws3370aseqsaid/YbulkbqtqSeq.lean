import Derived.Test.YbulkbqtqBuild
import Derived.Test.YbulkbqtqCommit
/-
  THE WALK OF 'LawS3370ASeq'.
-/
namespace Go.Proofs.Ybulkbqtq.Seq
open Go.RowKit
open Go.Proofs.Ybulkbqtq
attribute [local go_sem ↓] fold_bld
attribute [local go_sem] run_sB0 run_sB1 run_sB2 run_sL3 run_sL2 run_sQ run_r1 run_c1 run_o0

theorem Row.up {w w' : World} {v : Value} {cs : List Nat} (h : Row w v cs) (hb : Below w.heap.size w w') : Row w' v cs :=
  h.same fun g e => by obtain ⟨c, hc⟩ := h.lt g e; exact hb.block _ (lt_of_heap hc)

/-- the blocks at heights 1 .. T -/
def sq (L : Nat → Nat) (T : Nat) : List Nat := (List.range T).map fun t => L (t + 1)
theorem sq_len (L : Nat → Nat) (T : Nat) : (sq L T).length = T := by simp [sq]
theorem sq_get (L : Nat → Nat) (T j : Nat) (h : j < T) : (sq L T).getD j 0 = L (j + 1) := by simp [sq, h]
theorem sq_up (L : Nat → Nat) (T H : Nat) (h : T ≤ H) : sq L T ++ up L T H = sq L H := by
  apply List.ext_getElem
  · simp [sq, up]; omega
  · intro i h1 h2
    simp only [sq, List.length_map, List.length_range] at h2
    by_cases hi : i < T
    · rw [List.getElem_append_left (by rw [sq_len]; exact hi)]
      simp [sq]
    · rw [List.getElem_append_right (by rw [sq_len]; omega)]
      simp only [up, sq, List.getElem_map, List.getElem_range, List.length_map, List.length_range]
      congr 1
      omega
theorem sq_takes (L : Nat → Nat) (T H : Nat) : Takes L (sq L T) T H ↔ T < H := by
  unfold Takes
  constructor
  · exact fun h => h.1
  · intro h
    refine ⟨h, ?_⟩
    by_cases h0 : T = 0
    · exact .inl h0
    · right
      rw [sq_get L T (T - 1) (by omega), show T - 1 + 1 = T by omega]

/-- the output that is kept: none, or a Commit in memory -/
def Out (w : World) (out : Value) : Prop := out = .pointer none ∨ ∃ ob c, out = pv ob ∧ w.heap[ob]? = some (.cells c 41)

/-- the five blocks that a round lays -/
structure Laid (w W : World) : Prop where
  below : Below w.heap.size w W
  size : W.heap.size = w.heap.size + 5
  blk1 : ∃ c, W.heap[w.heap.size]? = some (.cells c 35)
  lnk1 : W.heap[w.heap.size + 1]? = some (.cells (lkA (some ⟨w.heap.size, 0, none⟩) z32 (-1)) 38)
  blk2 : ∃ c, W.heap[w.heap.size + 1 + 1]? = some (.cells c 35)
  lnk2 : W.heap[w.heap.size + 1 + 1 + 1]? = some (.cells (lkA (some ⟨w.heap.size + 1 + 1, 0, none⟩) z32 (-2)) 38)
  qc : ∃ c, W.heap[w.heap.size + 1 + 1 + 1 + 1]? = some (.cells c 66)

def laid (w : World) (k : Int) : World :=
  (((((w.alloc (Obj.cells (bkA (-1) z32) 35)).alloc (Obj.cells (lkA (some { block := w.heap.size, off := 0 }) z32 (-1)) 38)).alloc (Obj.cells (bkA (-2) z32) 35)).alloc
    (Obj.cells (lkA (some { block := w.heap.size + 1 + 1, off := 0 }) z32 (-2)) 38)).alloc (Obj.cells (qcA k) 66))

theorem laid_facts (w : World) (k : Int) : Laid w (laid w k) := by
  unfold laid
  refine ⟨?_, by simp, ⟨bkA (-1) z32, ?_⟩, ?_, ⟨bkA (-2) z32, ?_⟩, ?_, ⟨qcA k, ?_⟩⟩
  · repeat (first | exact Below.refl _ _ | refine Below.alloc ?_ (by first | (simp; done) | (simp; omega)) _)
  · iterate 4 refine old _ _ _ _ ?_
    exact new _ _ _ (by simp)
  · iterate 3 refine old _ _ _ _ ?_
    exact new _ _ _ (by simp)
  · iterate 2 refine old _ _ _ _ ?_
    exact new _ _ _ (by simp)
  · refine old _ _ _ _ ?_
    exact new _ _ _ (by simp)
  · exact new _ _ _ (by simp)

set_option maxRecDepth 100000 in
set_option maxHeartbeats 1000000 in
theorem seq_any (a0 : Int) (a1 : Option Addr) (len cap : Nat) (zs : List Int) (N : Nat) (w : World) (b0 : 0 ≤ a0) (b0' : a0 ≤ 65535) (eN : a0 % 300 = (N : Int)) (hN : N < 300) (hl : len ≤ 1024)
    (hc : ∀ j, j < len → ∃ b off, a1 = some ⟨b, off, none⟩ ∧ w.cell? ⟨b, off + j, none⟩ = some (.int .u16 (zs.getD j 0)))
    (hz : ∀ j, 0 ≤ zs.getD j 0 ∧ zs.getD j 0 ≤ 65535) :
    Calls Yba.prog 4 #[.int .u16 a0, .slice a1 len cap] w fun e w' => e = .returned (.bool true) ∧ Below w.heap.size w w' := by
  have ql : ¬ (1024 : Int) < (len : Int) := by omega
  go_enter Yba.func4, Yba.ntmps4
  go_wp2_with (go_at_call 5; refine (build_any N _ hN).mono ?_; rintro e w1 ⟨rfl, ⟨L, B, hi⟩, hb⟩)
  go_loopg [9, 10] len (fun g t i wr => ∃ (k T : Nat) (v out : Value), k ≤ len ∧ T ≤ N ∧ g = len - k ∧ i = .int .i64 (k : Int) ∧ t = .int .i64 (T : Int) ∧ St (w1.heap.size + 1) w1.heap.size w.heap.size N 0 v out L B (sq L T) wr ∧ Out wr out ∧
    (∀ b, v.ownBlock = some b → w.heap.size ≤ b) ∧ Below w.heap.size w wr)
  case atStart =>
    refine ⟨0, 0, .slice none 0 0, .pointer none, by omega, by omega, by omega, rfl, rfl, ⟨new _ _ _ (by simp), old _ _ _ _ (new _ _ _ rfl), hi.below ?_, .inl ⟨rfl, rfl⟩, fun x hx => (by cases hx), fun e => (by cases e)⟩, .inl rfl, fun b e => (by cases e), ?_⟩
    · exact ((Below.refl _ _).alloc (Nat.le_refl _) _).alloc (by simp) _
    · exact (hb.alloc hb.size _).alloc (by have := hb.size; simp; omega) _
  case round =>
    obtain ⟨k, T, v, out, hk, hT, hg, rfl, rfl, hs, hout, hown, hbe⟩ := hrel
    have hg' := hide hg
    clear hg
    by_cases hlt : k < len
    · obtain ⟨b, off, rfl, hck⟩ := hc k hlt
      have hck' : wr.cell? ⟨b, off + k, none⟩ = some (.int .u16 (zs.getD k 0)) := (hbe.cell (p := ⟨b, off + k, none⟩) (World.block_lt_of_cell? w _ hck)).trans hck
      obtain ⟨z, hzk⟩ : ∃ z, zs.getD k 0 = z := ⟨_, rfl⟩
      have hz' := hz k
      rw [hzk] at hck' hz'
      obtain ⟨hz0, hz1⟩ := hz'
      obtain ⟨H, hH⟩ : ∃ H : Nat, z % ((N : Int) + 1) = (H : Int) := ⟨(z % ((N : Int) + 1)).toNat, by have := Int.emod_nonneg z (show (N : Int) + 1 ≠ 0 by omega); omega⟩
      have hHN : H ≤ N := by have := Int.emod_lt_of_pos z (show (0 : Int) < (N : Int) + 1 by omega); omega
      have x0 : wr.cell? ⟨w1.heap.size + 1, 15, none⟩ = some out := by rw [cell_of_heap hs.rep]; exact repA_out _ _ _ _
      have q0 : (0 : Int) ≤ (k : Int) := by omega
      have q1 : (k : Int) < (len : Int) := by omega
      clear hck hzk hz hc
      go_upto_region 15 with fail
      rw [hH]
      have hL := laid_facts wr k
      obtain ⟨W, hW⟩ : ∃ W, laid wr k = W := ⟨_, rfl⟩
      rw [hW] at hL
      unfold laid at hW
      rw [hW]
      clear hW
      have hsW := hs.below hL.below
      have y4 : W.cell? ⟨w.heap.size + 1, H, none⟩ = some (pv (L H)) := by rw [cell_of_heap hsW.inv.row]; exact rowA_get L (by omega) (by omega)
      have q2 : (H : Int) < (N : Int) + 1 := by omega
      have q3 : (0 : Int) ≤ (H : Int) := by omega
      obtain ⟨d1, hk1⟩ := hL.blk1
      obtain ⟨d2, hk2⟩ := hL.blk2
      obtain ⟨cq, hcq⟩ := hL.qc
      clear x0 hck' hH hz0 hz1
      go_wp2_with fail
      refine (commit_any (w1.heap.size + 1) w1.heap.size w.heap.size N 0 v out L B (sq L T) W hsW hN T (hide (sq_len L T)) (by omega) H hHN (wr.heap.size + 1) (wr.heap.size + 1 + 1 + 1)
        (wr.heap.size + 1 + 1 + 1 + 1) wr.heap.size (wr.heap.size + 1 + 1) _ _ hL.lnk1 (lkA_get0 _ _ _) hL.lnk2 (lkA_get0 _ _ _)).mono ?_
      rintro e w3 ⟨rfl, hleft⟩
      have hbW : Below w.heap.size w W := hbe.trans (hL.below.mono hbe.size)
      rcases hleft with ⟨hnt, hbel⟩ | ⟨ht, v', ob, hs3, hrow3, hbut, hob, hoc, hvo⟩
      · rw [sq_takes] at hnt
        have hs3 := hsW.below hbel
        obtain ⟨va, vc, hv⟩ := hs3.row.form
        rw [sq_len] at hv
        subst hv
        have x3 : w3.cell? ⟨w1.heap.size + 1, 14, none⟩ = some (.slice va T vc) := by rw [cell_of_heap hs3.rep]; exact repA_com _ _ _ _
        have x4 : w3.cell? ⟨w1.heap.size + 1, 15, none⟩ = some out := by rw [cell_of_heap hs3.rep]; exact repA_out _ _ _ _
        have hout3 : Out w3 out := by
          rcases hout with h | ⟨ob, c, h, hc⟩
          · exact .inl h
          · exact .inr ⟨ob, c, h, (hbel.block _ (Nat.lt_of_lt_of_le (lt_of_heap hc) hL.below.size)).trans ((hL.below.block _ (lt_of_heap hc)).trans hc)⟩
        have q4 : ¬ (T : Int) < (H : Int) := by omega
        have hbf := hide (hbW.trans (hbel.mono hbW.size))
        have hs3' := hide hs3
        have hown' := hide hown
        have hout' := hide hout3
        clear hsW hs hL hbel hbW hbe hout hown hs3 hk1 hk2 hcq y4
        rcases hout3 with rfl | ⟨ob, c, rfl, hc⟩
        · go_wp2_with fail
          go_roundg (len - (k + 1))
          case measure => have := unhide hg'; omega
          case rel => exact ⟨k + 1, T, _, _, by omega, hT, rfl, by go_num, rfl, unhide hs3', unhide hout', unhide hown', unhide hbf⟩
        · have n1 : (binOp .neq 39 (pv ob) (pv ob)).run Yba.prog w3 = .ok (.bool false) w3 := by
            rw [run_neq w3 39 41 3 Yba.underlying39 size41 _ _ hc hc]; simp
          clear hc
          go_wp2_with fail
          go_roundg (len - (k + 1))
          case measure => have := unhide hg'; omega
          case rel => exact ⟨k + 1, T, _, _, by omega, hT, rfl, by go_num, rfl, unhide hs3', unhide hout', unhide hown', unhide hbf⟩
      · rw [sq_takes] at ht
        rw [sq_up L T H (by omega)] at hs3
        obtain ⟨va, vc, hv⟩ := hs3.row.form
        rw [sq_len] at hv
        subst hv
        have keep : ∀ {k : Nat} {c : Array Value} {t : TypeId}, W.heap[k]? = some (.cells c t) → t ≠ 61 → t ≠ 27 → w3.heap[k]? = some (.cells c t) := by
          intro k c t hk h1 h2
          refine (hbut.far k (lt_of_heap hk) ?_ ?_).trans hk
          · rintro rfl
            rw [hsW.rep] at hk
            cases hk
            exact h1 rfl
          · intro e
            obtain ⟨c', hc'⟩ := hsW.row.lt k e
            rw [hk] at hc'
            cases hc'
            exact h2 rfl
        have hb3 := keep hk1 (by decide) (by decide)
        have hb4 := keep hk2 (by decide) (by decide)
        have hq3 := keep hcq (by decide) (by decide)
        have hl3 := keep hL.lnk1 (by decide) (by decide)
        have hl4 := keep hL.lnk2 (by decide) (by decide)
        have x3 : w3.cell? ⟨w1.heap.size + 1, 14, none⟩ = some (.slice va H vc) := by rw [cell_of_heap hs3.rep]; exact repA_com _ _ _ _
        have x4 : w3.cell? ⟨w1.heap.size + 1, 15, none⟩ = some (pv ob) := by rw [cell_of_heap hs3.rep]; exact repA_out _ _ _ _
        have y0 : w3.cell? ⟨ob, 0, none⟩ = some (pv (B H)) := by rw [cell_of_heap hoc]; rfl
        have y1 : w3.cell? ⟨ob, 1, none⟩ = some (pv wr.heap.size) := by rw [cell_of_heap hoc]; rfl
        have y2 : w3.cell? ⟨ob, 2, none⟩ = some (pv (wr.heap.size + 1 + 1)) := by rw [cell_of_heap hoc]; rfl
        have y3 : w3.cell? ⟨ob, 3, none⟩ = some (pv (wr.heap.size + 1 + 1 + 1 + 1)) := by rw [cell_of_heap hoc]; rfl
        have y4' : w3.cell? ⟨w.heap.size + 1, H, none⟩ = some (pv (L H)) := by rw [cell_of_heap hs3.inv.row]; exact rowA_get L (by omega) (by omega)
        have y5 : w3.cell? ⟨L H, 0, none⟩ = some (pv (B H)) := by rw [cell_of_heap (hs3.inv.link H (by omega))]; exact lkA_get0 _ _ _
        have y6 : w3.cell? ⟨wr.heap.size + 1, 0, none⟩ = some (pv wr.heap.size) := by rw [cell_of_heap hl3]; exact lkA_get0 _ _ _
        have y7 : w3.cell? ⟨wr.heap.size + 1 + 1 + 1, 0, none⟩ = some (pv (wr.heap.size + 1 + 1)) := by rw [cell_of_heap hl4]; exact lkA_get0 _ _ _
        have m1 : ∀ k, (binOp .neq 28 (pv (B H)) (pv (B H))).run Yba.prog (w3.drewN k) = .ok (.bool false) (w3.drewN k) := fun k => by
          rw [run_neq (w3.drewN k) 28 35 36 Yba.underlying28 size35 _ _ (hs3.inv.blk H (by omega)) (hs3.inv.blk H (by omega))]; simp
        have m2 : ∀ k, (binOp .neq 28 (pv wr.heap.size) (pv wr.heap.size)).run Yba.prog (w3.drewN k) = .ok (.bool false) (w3.drewN k) := fun k => by
          rw [run_neq (w3.drewN k) 28 35 36 Yba.underlying28 size35 _ _ hb3 hb3]; simp
        have m3 : ∀ k, (binOp .neq 28 (pv (wr.heap.size + 1 + 1)) (pv (wr.heap.size + 1 + 1))).run Yba.prog (w3.drewN k) = .ok (.bool false) (w3.drewN k) := fun k => by
          rw [run_neq (w3.drewN k) 28 35 36 Yba.underlying28 size35 _ _ hb4 hb4]; simp
        have m4 : ∀ k, (binOp .neq 31 (pv (wr.heap.size + 1 + 1 + 1 + 1)) (pv (wr.heap.size + 1 + 1 + 1 + 1))).run Yba.prog (w3.drewN k) = .ok (.bool false) (w3.drewN k) := fun k => by
          rw [run_neq (w3.drewN k) 31 66 34 Yba.underlying31 size66 _ _ hq3 hq3]; simp
        have q4 : (T : Int) < (H : Int) := by omega
        have hbf : Hid (Below w.heap.size w w3) := by
          refine ⟨hbut.os.trans hbW.os, hbut.tape.trans hbW.tape, hbut.output.trans hbW.output, Nat.le_trans hbW.size hbut.size, fun k hk => ?_⟩
          have l1 := hb.size
          have l3 := hbW.size
          refine (hbut.far k (by omega) (by omega) (fun e => ?_)).trans (hbW.block k (by omega))
          have := hown k e
          omega
        have hs3' := hide hs3
        have hout' : Hid (Out w3 (pv ob)) := .inr ⟨ob, _, rfl, hoc⟩
        have hown' : Hid (∀ b, (Value.slice va H vc).ownBlock = some b → w.heap.size ≤ b) := fun b e => by
          rcases hvo b e with h | h
          · exact hown b h
          · exact Nat.le_trans hbW.size h
        have hob' : ∀ p c, wr.heap[p]? = some (.cells c 41) → ob ≠ p ∧ w3.heap[p]? = some (.cells c 41) := fun p c hp => by
          have hp' := (hL.below.block _ (lt_of_heap hp)).trans hp
          have := lt_of_heap hp'
          exact ⟨by omega, keep hp' (by decide) (by decide)⟩
        rcases hout with rfl | ⟨ob0, c0, rfl, hc0⟩
        · clear keep hb3 hb4 hq3 hl3 hl4 hs3 hsW hs hL hbut hbW hbe hown hk1 hk2 hcq y4 hoc hob hob' hrow3 hvo hi hb
          go_upto_region 19 with fail
          go_quiet (fail)
          go_wp2_with fail
          go_roundg (len - (k + 1))
          case measure => have := unhide hg'; omega
          case rel => exact ⟨k + 1, H, _, _, by omega, hHN, rfl, by go_num, rfl, (unhide hs3').below (below_drewN (Below.refl _ _) _), (unhide hout' : Out w3 (pv ob)), unhide hown', below_drewN (unhide hbf) _⟩
        · obtain ⟨hne, hp3⟩ := hob' ob0 c0 hc0
          have n2 : ∀ k, (binOp .eql 39 (pv ob) (pv ob0)).run Yba.prog (w3.drewN k) = .ok (.bool false) (w3.drewN k) := fun k => by
            rw [run_eql (w3.drewN k) 39 41 3 Yba.underlying39 size41 _ _ hoc hp3]
            simp [hne]
          clear keep hb3 hb4 hq3 hl3 hl4 hs3 hsW hs hL hbut hbW hbe hown hk1 hk2 hcq y4 hoc hob hob' hrow3 hvo hi hb hne hp3 hc0
          go_upto_region 19 with fail
          go_quiet (fail)
          go_wp2_with fail
          go_roundg (len - (k + 1))
          case measure => have := unhide hg'; omega
          case rel => exact ⟨k + 1, H, _, _, by omega, hHN, rfl, by go_num, rfl, (unhide hs3').below (below_drewN (Below.refl _ _) _), (unhide hout' : Out w3 (pv ob)), unhide hown', below_drewN (unhide hbf) _⟩
    · obtain rfl : k = len := by omega
      obtain ⟨va, vc, hv⟩ := hs.row.form
      rw [sq_len] at hv
      subst hv
      have x3 : wr.cell? ⟨w1.heap.size + 1, 14, none⟩ = some (.slice va T vc) := by rw [cell_of_heap hs.rep]; exact repA_com _ _ _ _
      clear hc hz hout hown hg' hlt hk
      go_wp2_with fail
      go_loopg [17] T (fun g i wl => ∃ j d : Nat, j ≤ T ∧ g = T - j ∧ i = .int .i64 (j : Int) ∧ wl = wr.drewN d)
      case atStart => exact ⟨0, 0, by omega, by omega, rfl, rfl⟩
      case round =>
        obtain ⟨j, d, hj, hgj, rfl, rfl⟩ := hrel
        have hgj' := hide hgj
        clear hgj
        by_cases hjt : j < T
        · obtain ⟨cg, cc', hcf⟩ := hs.row.formPos (by rw [sq_len]; omega)
          obtain rfl : va = some ⟨cg, 0, none⟩ := by simp at hcf; exact hcf.1
          have x5 := hs.row.at (i := j) (by rw [sq_len]; omega)
          rw [sq_get L T j hjt] at x5
          have x6 : wr.cell? ⟨w.heap.size + 1, j + 1, none⟩ = some (pv (L (j + 1))) := by rw [cell_of_heap hs.inv.row]; exact rowA_get L (by omega) (by omega)
          have hlk := hs.inv.link (j + 1) (by omega)
          have n3 : ∀ k, (binOp .neq 27 (pv (L (j + 1))) (pv (L (j + 1)))).run Yba.prog (wr.drewN k) = .ok (.bool false) (wr.drewN k) := fun k => by
            rw [run_neq (wr.drewN k) 27 38 33 Yba.underlying27 size38 _ _ hlk hlk]; simp
          have q7 : (0 : Int) ≤ (j : Int) := by omega
          have q8 : (j : Int) < (T : Int) := by omega
          have q9 : (j : Int) + 1 < (N : Int) + 1 := by omega
          clear hcf hlk
          go_upto_region 30 with fail
          go_quiet (fail)
          go_wp2_with fail
          go_roundg (T - (j + 1))
          case measure => have := unhide hgj'; omega
          case rel => exact ⟨j + 1, _, by omega, rfl, by go_num, rfl⟩
        · obtain rfl : j = T := by omega
          go_wp2_with fail
          go_ret
          exact ⟨rfl, below_drewN hbe _⟩
end Go.Proofs.Ybulkbqtq.Seq
