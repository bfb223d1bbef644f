import Derived.Test.YbulkbqtqState
import Derived.Deep.RegionHeld3
import Derived.Deep.LoopGhost
import Derived.Deep.DeepCutAuto
import Derived.Deep.QuietTactic
import Derived.BigQuiet
namespace Go.Proofs.Ybulkbqtq
open Go.RowKit Go.Shelf
open Go.ChangeMaps (setBlock)
attribute [local go_sem ↓] fold_bld
attribute [local go_sem] run_o4 Oper.semAt_some

set_option maxRecDepth 100000 in
set_option maxHeartbeats 1000000 in
theorem commit_any (rb cb N n : Nat) (pref : Int) (cm out : Value) (L B : Nat → Nat) (cs : List Nat) (w : World) (hs : St rb cb N n pref cm out L B cs w) (hn : n < 300) (C : Nat) (hC : Hid (cs.length = C)) (hc : C ≤ 300) (H : Nat) (hH : H ≤ n)
    (k1 k2 q c1 c2 : Nat) (d1 d2 : Array Value) (hk1 : w.heap[k1]? = some (.cells d1 38)) (hd1 : d1[0]? = some (pv c1)) (hk2 : w.heap[k2]? = some (.cells d2 38)) (hd2 : d2[0]? = some (pv c2)) :
    Calls Yba.prog 7 #[pv rb, pv (L H), pv k1, pv k2, pv q] w fun e w' => e = .returned (.tuple #[]) ∧ Left rb cb N n pref cm L B cs w C H c1 c2 q w' := by
  obtain ⟨ca, cc, hcm⟩ := hs.row.form
  rw [unhide hC] at hcm
  have hcm' := hide hcm
  clear hcm
  refine (callsIn_wide (n := 3)).1 ?_
  refine callsIn_of_wp_marks Yba.func7 rfl trivial ?_ rfl
  refine wpIn_wide.2 ?_
  simp only [Yba.ntmps7, List.size_toArray, List.length_cons, List.length_nil, Nat.reduceAdd, Nat.reduceSub, Array.replicate_succ, Array.replicate_zero, List.push_toArray, List.append_toArray, List.nil_append, List.cons_append]
  go_wp2_with fail
  go_loopg [10, 11] H (fun g v l wr => ∃ m : Nat, g = m ∧ m ≤ H ∧ (m = H ∨ C ≤ m) ∧ l = pv (L m) ∧ Row wr v (frs L H m) ∧ (∀ k, v.ownBlock = some k → w.heap.size < k) ∧ wr.heap[w.heap.size]? = some (.cells #[pv rb] 48) ∧ Below w.heap.size w wr)
  case atStart =>
    exact ⟨H, rfl, Nat.le_refl _, .inl rfl, rfl, .inl ⟨rfl, by simp [frs]⟩, fun k e => (by cases e), heap_alloc_new w _, (Below.refl _ _).alloc (Nat.le_refl _) _⟩
  case round =>
    obtain ⟨m, hgm, hm, hmc, rfl, hrow, hown, hbox, hbe⟩ := hrel
    have hgm' := hide hgm
    clear hgm
    have hs' := hs.below hbe
    have e1 : wr.cell? ⟨w.heap.size, 0, none⟩ = some (pv rb) := by rw [cell_of_heap hbox]; rfl
    have e2 : wr.cell? ⟨rb, 14, none⟩ = some (.slice ca C cc) := by rw [cell_of_heap hs'.rep, repA_com, unhide hcm']
    have e3 : wr.cell? ⟨L m, 33, none⟩ = some (.int .i64 m) := by rw [cell_of_heap (hs'.inv.link m (by omega))]; exact lkA_get33 _ _ _ (hA_size _)
    by_cases hlt : C < m
    · have q1 : (C : Int) < (m : Int) := by omega
      go_upto_region 3 with fail
      go_quiet (fail)
      go_upto_region 5 with fail
      obtain ⟨j, rfl⟩ : ∃ j, m = j + 1 := ⟨m - 1, by omega⟩
      have hrw := hide (hrow.later (.cells #[pv (L (j + 1))] 27) nq)
      have hnw := hide (new_later wr (.cells #[pv (L (j + 1))] 27) nq)
      have hbw := hide (below_later hbe hbe.size (.cells #[pv (L (j + 1))] 27) nq)
      clear e1 e2 e3 hrow
      go_wp2_with (at_builtin; refine wpList_app rfl _ _ rfl rfl _ (frs L H (j + 1)) rfl (unhide hrw) wr.heap.size (L (j + 1)) rfl (unhide hnw) (by rw [frs_len]; omega) ?_; intro g cap w1 hrow1 hkeep hat)
      have hb1 : Below w.heap.size w w1 := hkeep.below (unhide hbw) (unhide hbw).size (fun k e => Nat.le_of_lt (hown k e))
      have hs1 := hs.below hb1
      have hbox1 : w1.heap[w.heap.size]? = some (.cells #[pv rb] 48) := by
        rw [hkeep.far _ (Nat.lt_of_lt_of_le (lt_of_heap hbox) (by simp)) (fun e => Nat.lt_irrefl _ (hown _ e))]
        exact (Below.heap_alloc wr _ _ (lt_of_heap hbox)).trans hbox
      have hown1 := hide (show w.heap.size < g from by
        rcases hat with e | e
        · exact hown g e
        · rw [e]; have := hbe.size; simp; omega)
      have hrow2 := hide hrow1
      have S1 : w1.drew.cell? ⟨w.heap.size, 0, none⟩ = some (pv rb) ∧ w1.drew.cell? ⟨rb, 10, none⟩ = some (pv cb) ∧ w1.drew.cell? ⟨cb, 3, none⟩ = some (.map (some N)) ∧ w1.drew.cell? ⟨L (j + 1), 0, none⟩ = some (pv (B (j + 1))) ∧
          w1.drew.rangeAt (B (j + 1)) 3 (hA j).toList ∧ (Instr.lookup 23 (.map (some N)) (.agg (hA j)) false).run Yba.prog w1.drew = .ok (pv (L j)) w1.drew := by
        refine ⟨?_, ?_, ?_, ?_, ?_, ?_⟩
        · show w1.cell? _ = _
          rw [cell_of_heap hbox1]; rfl
        · show w1.cell? _ = _
          rw [cell_of_heap hs1.rep]; exact repA_chain _ _ _ _
        · show w1.cell? _ = _
          rw [cell_of_heap hs1.chn]; exact chnA_links _
        · show w1.cell? _ = _
          rw [cell_of_heap (hs1.inv.link (j + 1) (by omega))]; exact lkA_get0 _ _ _
        · exact (World.rangeAt_drew _ _ _ _).2 (range_blk (hs1.inv.blk (j + 1) (by omega)))
        · exact run_get (w := w1.drew) hs1.inv.map (by omega) j (by omega)
      have hS1 := hide S1
      have hu := Yba.underlying30
      have hz : (Yba.prog.info? 30).map (·.size) = some (hA j).toList.length := by rw [size30]; simp [hA_size]
      have hl : (hA j).toList.length = 32 := by simp [hA_size]
      clear S1 hs1 hkeep hat hrow1 hbox hown hs' hbw hnw hrw hbe
      go_region_held3 (fun w' => w'.cell? ⟨w.heap.size, 0, none⟩ = some (pv rb) ∧ w'.cell? ⟨rb, 10, none⟩ = some (pv cb) ∧ w'.cell? ⟨cb, 3, none⟩ = some (.map (some N)) ∧ w'.cell? ⟨L (j + 1), 0, none⟩ = some (pv (B (j + 1))) ∧
          w'.rangeAt (B (j + 1)) 3 (hA j).toList ∧ (Instr.lookup 23 (.map (some N)) (.agg (hA j)) false).run Yba.prog w' = .ok (pv (L j)) w') (exact unhide hS1) (fail)
      go_wp2
      go_roundg j
      case measure => rw [unhide hgm']; omega
      case rel =>
        refine ⟨j, rfl, by omega, .inr (by omega), rfl, ?_, ?_, hbox1, hb1.drew⟩
        · rw [frs_step L H j (by omega)]
          exact unhide hrow2
        · intro k e
          simp only [Value.ownBlock, Option.some.injEq] at e
          rw [← e]; exact unhide hown1
    · have q1 : ¬ (C : Int) < (m : Int) := by omega
      obtain ⟨fa, fc, hv⟩ := hrow.form
      rw [frs_len] at hv
      by_cases hHC : H ≤ C
      · obtain rfl : m = H := by omega
        rw [Nat.sub_self] at hv
        subst hv
        go_upto_region 3 with fail
        go_quiet (fail)
        go_upto_region 6 with fail
        go_quiet (fail)
        go_wp2
        refine ⟨_, results_none rfl _ _ _, rfl, .inl ⟨fun h => ?_, below_drewN hbe _⟩⟩
        have := h.1
        omega
      · obtain rfl : m = C := by omega
        obtain ⟨d, hd⟩ : ∃ d, H = m + 1 + d := ⟨H - m - 1, by omega⟩
        rw [show H - m = d + 1 by omega] at hv
        have hd' := hide hd
        clear hd
        subst hv
        have g1 : (((d : Int) + 1) == 0) = false := by simp; omega
        obtain ⟨lm, hlm⟩ : ∃ c, wr.heap[L m]? = some (.cells c 38) := ⟨_, hs'.inv.link m (by omega)⟩
        by_cases ht : m = 0 ∨ cs.getD (m - 1) 0 = L m
        · go_upto_region 3 with fail
          go_quiet (fail)
          go_upto_region 6 with fail
          go_cut [70] from 44 to 70 (fun t wc => t = .bool false ∧ ∃ k, wc = wr.drewN k)
          case first =>
            cases m with
            | zero =>
              go_quiet (fail)
              go_wp2
              go_meet
              case rel => exact ⟨rfl, _, rfl⟩
            | succ c =>
              have hpos : 0 < cs.length := by rw [unhide hC]; omega
              obtain ⟨cg, cc', hcf⟩ := hs'.row.formPos hpos
              rw [unhide hC] at hcf
              obtain rfl : ca = some ⟨cg, 0, none⟩ := by have := (unhide hcm').symm.trans hcf; simp at this; exact this.1
              have hrw := hs'.row
              rw [unhide hcm'] at hrw
              have c4 := hrw.at (i := c) (by rw [unhide hC]; omega)
              have hx : cs.getD c 0 = L (c + 1) := by rcases ht with h | h <;> simp at h; exact h
              rw [hx] at c4
              have hne : ∀ k, (binOp .neq 27 (pv (L (c + 1))) (pv (L (c + 1)))).run Yba.prog (wr.drewN k) = .ok (.bool false) (wr.drewN k) := fun k => by
                rw [run_neq (wr.drewN k) 27 38 33 Yba.underlying27 size38 _ _ hlm hlm]; simp
              have g2 : (0 : Int) < (c : Int) + 1 := by omega
              have g3 : (0 : Int) ≤ (c : Int) := by omega
              have g4 : (c : Int) < (c : Int) + 1 := by omega
              clear hcf hrw hx ht hlm
              go_quiet (fail)
              go_wp2
              go_meet
              case rel => exact ⟨rfl, _, rfl⟩
          case rest =>
            obtain ⟨rfl, k, rfl⟩ := hcut
            clear hlm g1 e1 e2 e3
            obtain ⟨fg, fc', hff⟩ := hrow.formPos (by rw [frs_len]; omega)
            obtain rfl : fa = some ⟨fg, 0, none⟩ := by simp at hff; exact hff.1
            clear hff fc'
            go_wp2_with fail
            refine (backward_any _ _ _ _).mono ?_
            rintro e w' ⟨rfl, rfl⟩
            go_wp2_with fail
            obtain ⟨W0, hW0⟩ : ∃ W0, (wr.drewN k).alloc (.cells #[.slice (some ⟨fg, 0, none⟩) (d + 1) fc] 24) = W0 := ⟨_, rfl⟩
            rw [hW0]
            have hb1 : Below wr.heap.size wr W0 := by rw [← hW0]; exact (below_drewN (Below.refl _ _) k).alloc (Nat.le_refl _) _
            have hbx : W0.heap[wr.heap.size]? = some (.cells #[.slice (some ⟨fg, 0, none⟩) (d + 1) fc] 24) := by rw [← hW0]; exact heap_alloc_new (wr.drewN k) _
            have hs0 := hs'.below hb1
            have hbox0 : W0.heap[w.heap.size]? = some (.cells #[pv rb] 48) := (hb1.block _ (lt_of_heap hbox)).trans hbox
            have hrow0 : Row W0 (.slice (some ⟨fg, 0, none⟩) (d + 1) fc) (frs L H m) := hrow.same (fun g e => by obtain ⟨c, hc⟩ := hrow.lt g e; exact hb1.block _ (lt_of_heap hc))
            have hb0 : Below w.heap.size w W0 := hbe.trans (hb1.mono hbe.size)
            have hfl : (frs L H m).length = d + 1 := by rw [frs_len]; have := unhide hd'; omega
            rw [← hfl] at hrow0 hbx
            clear hW0
            refine (wpIn_wide (n := 3)).1 ?_
            refine wpIn_rangeFunc_ownG rfl (by omega) (gf := 9) (lb := #[pv wr.heap.size]) rfl trivial (enters_of Yba.func9 (by kernel_rfl) rfl)
              (back_stops 2 (by omega) wr.heap.size fg fc (frs L H m) (by rw [frs_len]; omega) W0 hbx hrow0) ?kt ?kb (Below.refl _ _) (fun _ => rfl)
              (Rd rb cb pref cm out cs W0) (fun _ _ _ => False) (rd_own rb cb pref cm out cs W0 _ (Nat.le_refl _)) (fun _ _ _ _ _ h _ _ => h) ?start ?a1 ?assign ?body ?done ?stop
            case kt => exact fun h k => ⟨k.1.trans h.1, k.2.trans h.2⟩
            case kb =>
              intro W l o o' hl ho _ _
              have l1 := lt_of_heap hbx
              have l2 : fg < W0.heap.size := by obtain ⟨c, hc⟩ := hrow0.lt fg rfl; exact lt_of_heap hc
              exact ⟨by simp [World.putObj, show l ≠ wr.heap.size by omega], by simp [World.putObj, show l ≠ fg by omega]⟩
            case start =>
              refine ⟨But.refl _ _ _, hs0.row, cm, hs0.rep, by simpa using hs0.row, fun k e => .inl e⟩
            case assign =>
              intro l x W K hK
              gi_wp2
              exact hK
            case body =>
              rintro l pre x W ⟨hB, hrc, v, hrep, hrv, hv⟩ hlen
              have l1 := lt_of_heap hbx
              obtain ⟨cfg, hfg⟩ := hrow0.lt fg rfl
              have l2 := lt_of_heap hfg
              have lb := lt_of_heap hs.rep
              have ow := hown fg rfl
              have cmlt : ∀ k, cm.ownBlock = some k → k < w.heap.size := fun k e => by obtain ⟨c, hc⟩ := hs.row.lt k e; exact lt_of_heap hc
              have hbe0 := hbe.size
              have bN : ∀ k, w.heap.size ≤ k → k ≠ rb ∧ cm.ownBlock ≠ some k := fun k hk => ⟨by omega, fun e => by have := cmlt k e; omega⟩
              have hbW : W.heap[w.heap.size]? = some (.cells #[pv rb] 48) := (hB.far _ (lt_of_heap hbox0) (bN _ (Nat.le_refl _)).1 (bN _ (Nat.le_refl _)).2).trans hbox0
              gi_wp2
              refine body9 (fun _ _ _ h => h) (fun _ _ h => h) l _ w.heap.size rb x.2 v (cs ++ pre.map (·.2)) _ W rfl ?_ rfl rfl _ hbW rfl _ hrep (repA_com _ _ _ _) hrv ?_
              · rw [hfl] at hlen
                have := unhide hd'
                have := unhide hC
                simp
                omega
              · intro a' g cap w1 h2 h3 h4
                exact rd_step l1 l2 (bN _ hbe0).1 (bN _ (Nat.le_of_lt ow)).1 (bN _ hbe0).2 (bN _ (Nat.le_of_lt ow)).2 hB hrc hrep hrv hv h2 h3 h4
            case done =>
              rintro D ys W hD rfl hR hK
              have hR' := hR
              obtain ⟨hB, hrc, v, hrep, hrv, hv⟩ := hR
              have cmlt : ∀ k, cm.ownBlock = some k → k < w.heap.size := fun k e => by obtain ⟨c, hc⟩ := hs.row.lt k e; exact lt_of_heap hc
              have bN : ∀ k, w.heap.size ≤ k → k ≠ rb ∧ cm.ownBlock ≠ some k := fun k hk => ⟨by have := lt_of_heap hs.rep; omega, fun e => by have := cmlt k e; omega⟩
              have hbW : W.heap[w.heap.size]? = some (.cells #[pv rb] 48) := (hB.far _ (lt_of_heap hbox0) (bN _ (Nat.le_refl _)).1 (bN _ (Nat.le_refl _)).2).trans hbox0
              have lk : ∀ {k : Nat} {c : Array Value}, w.heap[k]? = some (.cells c 38) → W.heap[k]? = some (.cells c 38) ∧ k ≠ rb := by
                intro k c hk
                have e1 : k ≠ rb := by rintro rfl; rw [hs.rep] at hk; cases hk
                have e2 : cm.ownBlock ≠ some k := fun e => by obtain ⟨c', hc'⟩ := hs.row.lt k e; rw [hk] at hc'; cases hc'
                exact ⟨((hB.far k (Nat.lt_of_lt_of_le (lt_of_heap hk) hb0.size) e1 e2).trans (hb0.block k (lt_of_heap hk))).trans hk, e1⟩
              obtain ⟨j1, n1⟩ := lk hk1
              obtain ⟨j2, n2⟩ := lk hk2
              obtain ⟨jH, nH⟩ := lk (hs.inv.link H (by omega))
              have nb : w.heap.size ≠ rb := (bN _ (Nat.le_refl _)).1
              have hS : ∀ w' : World, (∀ k, k < W.heap.size → k ≠ rb → w'.heap[k]? = W.heap[k]?) →
                  w'.cell? ⟨w.heap.size, 0, none⟩ = some (pv rb) ∧ w'.cell? ⟨L H, 0, none⟩ = some (pv (B H)) ∧ w'.cell? ⟨k1, 0, none⟩ = some (pv c1) ∧ w'.cell? ⟨k2, 0, none⟩ = some (pv c2) := by
                intro w' hw
                refine ⟨?_, ?_, ?_, ?_⟩
                · rw [cell_of_heap ((hw _ (lt_of_heap hbW) nb).trans hbW)]; rfl
                · rw [cell_of_heap ((hw _ (lt_of_heap jH) nH).trans jH)]; exact lkA_get0 _ _ _
                · rw [cell_of_heap ((hw _ (lt_of_heap j1) n1).trans j1)]; exact hd1
                · rw [cell_of_heap ((hw _ (lt_of_heap j2) n2).trans j2)]; exact hd2
              have s0 := hide (hS W.drew (fun _ _ _ => rfl))
              have s1 := hide (hS (W.drew.alloc (.cells #[pv (B H), pv c1, pv c2, pv q] 41)) (fun k hk _ => Below.heap_alloc W.drew _ k hk))
              have heq : (W.drew.alloc (.cells #[pv (B H), pv c1, pv c2, pv q] 41)).setCell ⟨rb, 15, none⟩ (pv W.heap.size) = ((W.setCell ⟨rb, 15, none⟩ (pv W.heap.size)).alloc (.cells #[pv (B H), pv c1, pv c2, pv q] 41)).drew :=
                World.setCell_alloc_past _ _ _ _ (lt_of_heap hrep)
              have s2 := hide (hS ((W.drew.alloc (.cells #[pv (B H), pv c1, pv c2, pv q] 41)).setCell ⟨rb, 15, none⟩ (pv W.heap.size)) (fun k hk e => (setCell_far _ _ _ _ _ e).trans (Below.heap_alloc W.drew _ k hk)))
              rw [heq] at s2
              have o1 : W.cell? ⟨rb, 15, none⟩ = some out := by rw [cell_of_heap hrep]; exact repA_out _ _ _ _
              have o2 : W.frozen? ⟨rb, 15, none⟩ = false := free_of_heap hrep _
              have o3 := lt_of_heap hrep
              have hfin := hide (finish (c1 := c1) (c2 := c2) (q := q) hs hb0 hR' ⟨by omega, ht⟩ hD hK hH)
              rw [heq] at hfin
              clear heq
              have hDr : Hid (W.heap[D]? = some (.deferred (some []))) := hide hK
              have hDn := hide (show D ≠ rb by rintro rfl; rw [hK] at hrep; cases hrep)
              clear hS lk bN cmlt hR' hB hrc hrv hv hbW j1 j2 jH n1 n2 nH nb hrep hK hs0 hrow0 hbx hbox0 hbox hrow hs' hb1 hb0 hbe hown hlt hmc hm hHC ht
              go_upto_region 10 with fail
              go_region_held3 (fun w' => w'.cell? ⟨w.heap.size, 0, none⟩ = some (pv rb) ∧ w'.cell? ⟨L H, 0, none⟩ = some (pv (B H)) ∧ w'.cell? ⟨k1, 0, none⟩ = some (pv c1) ∧ w'.cell? ⟨k2, 0, none⟩ = some (pv c2))
                (first | exact unhide s0 | exact unhide s1 | exact unhide s2) (fail)
              go_wp2
              refine ⟨by simp, .inl ⟨_, _, rfl, run_takeDeferred (ds := []) ?_, ?_⟩⟩
              · show ((W.setCell ⟨rb, 15, none⟩ (pv W.heap.size)).alloc (.cells #[pv (B H), pv c1, pv c2, pv q] 41)).heap[D]? = _
                rw [Below.heap_alloc _ _ _ (by have := lt_of_heap (unhide hDr); simp; exact this), setCell_far _ _ _ _ _ (unhide hDn)]
                exact unhide hDr
              · exact ⟨_, results_none rfl _ _ _, rfl, unhide hfin⟩
            case stop =>
              rintro D c pre W _ _ h _
              exact h.elim
        · obtain ⟨c, rfl⟩ : ∃ c, m = c + 1 := ⟨m - 1, by omega⟩
          have hpos : 0 < cs.length := by rw [unhide hC]; omega
          obtain ⟨cg, cc', hcf⟩ := hs'.row.formPos hpos
          rw [unhide hC] at hcf
          obtain rfl : ca = some ⟨cg, 0, none⟩ := by have := (unhide hcm').symm.trans hcf; simp at this; exact this.1
          have hrw := hs'.row
          rw [unhide hcm'] at hrw
          have e4 := hrw.at (i := c) (by rw [unhide hC]; omega)
          have hx : cs.getD c 0 ≠ L (c + 1) := fun e => ht (.inr (by simpa using e))
          have hmem : cs.getD c 0 ∈ cs := by
            have hlt' : c < cs.length := by rw [unhide hC]; omega
            rw [List.getD_eq_getElem?_getD, List.getElem?_eq_getElem hlt']
            exact List.getElem_mem hlt'
          obtain ⟨lx, hlx⟩ := hs'.lnk _ hmem
          obtain ⟨X, hX⟩ : ∃ X, cs.getD c 0 = X := ⟨_, rfl⟩
          rw [hX] at e4 hx hlx
          have hX' := hide hX
          have hne : ∀ k, (binOp .neq 27 (pv (L (c + 1))) (pv X)).run Yba.prog (wr.drewN k) = .ok (.bool true) (wr.drewN k) := fun k => by
            rw [run_neq (wr.drewN k) 27 38 33 Yba.underlying27 size38 _ _ hlm hlx]; simp [Ne.symm hx]
          have g2 : (0 : Int) < (c : Int) + 1 := by omega
          have g3 : (0 : Int) ≤ (c : Int) := by omega
          have g4 : (c : Int) < (c : Int) + 1 := by omega
          have ht' := hide ht
          clear hcf hrw hx hlm hmem hlx hX ht
          go_upto_region 3 with fail
          go_quiet (fail)
          go_upto_region 6 with fail
          go_quiet (fail)
          go_wp2
          refine ⟨_, results_none rfl _ _ _, rfl, .inl ⟨fun h => ?_, below_drewN hbe _⟩⟩
          exact unhide ht' h.2
end Go.Proofs.Ybulkbqtq
