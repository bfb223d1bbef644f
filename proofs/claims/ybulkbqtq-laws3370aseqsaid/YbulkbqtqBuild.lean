import Derived.Test.YbulkbqtqChain
import Derived.Deep.RegionHeld3
import Derived.Deep.LoopGhost
import Derived.Deep.DeepCutAuto
namespace Go.Proofs.Ybulkbqtq
open Go.RowKit
open Go.ChangeMaps (setBlock)

attribute [local go_sem ↓] alloc30_fold fold_bld
attribute [local go_sem] run_sAlloc30 run_sB0 run_sB1 run_sB2 run_sL3 run_sL2 run_sQ

theorem nils_get0 (n : Nat) : (nils (n + 1))[0]? = some (.pointer none) := by simp [nils]

theorem old (W : World) (o : Obj) (i : Nat) (x : Obj) (h : W.heap[i]? = some x) : (W.alloc o).heap[i]? = some x := (Below.heap_alloc W o i (lt_of_heap h)).trans h
theorem new (W : World) (o : Obj) (i : Nat) (h : i = W.heap.size) : (W.alloc o).heap[i]? = some o := by subst h; exact heap_alloc_new W o

/-- the world behind 'main[0] = &link{..}' -/
theorem inv_start (w : World) (n : Nat) :
    Inv w.heap.size n 1 0 (fun _ => w.heap.size + 5) (fun _ => w.heap.size + 2)
      ((((((w.alloc (Obj.map #[] 0)).alloc (Obj.cells ((nils (n + 1)).setIfInBounds 0 (Value.pointer (some { block := w.heap.size + 1 + 1 + 1 + 1 + 1, off := 0 }))) 27)).alloc
        (Obj.cells (bkA 0 z32) 35)).alloc (Obj.cells (hA 0) 30)).alloc (Obj.cells (hA 0) 30)).alloc (Obj.cells (lkA (some { block := w.heap.size + 1 + 1, off := 0 }) (hA 0) 0) 38)) := by
  refine ⟨?_, ?_, ?_, ?_, ?_⟩
  · refine old _ _ _ _ (old _ _ _ _ (old _ _ _ _ (old _ _ _ _ (old _ _ _ _ (new _ _ _ rfl)))))
  · refine old _ _ _ _ (old _ _ _ _ (old _ _ _ _ (old _ _ _ _ ?_)))
    rw [rowA_zero n (fun _ => w.heap.size + 5), rowA_set (k := 0) (fun _ => w.heap.size + 5) (w.heap.size + 1 + 1 + 1 + 1 + 1) rfl]
    exact new _ _ _ (by simp)
  · intro j hj
    obtain rfl : j = 0 := by omega
    exact new _ _ _ (by simp)
  · intro j hj
    obtain rfl : j = 0 := by omega
    exact old _ _ _ _ (old _ _ _ _ (old _ _ _ _ (new _ _ _ (by simp))))
  · intro i hi j hj _
    omega

set_option maxRecDepth 100000 in
set_option maxHeartbeats 1000000 in
theorem build_any (n : Nat) (w : World) (hn : n < 300) :
    Calls Yba.prog 5 #[.int .i64 n] w fun e w' => e = .returned (.tuple #[.map (some w.heap.size), .slice (some ⟨w.heap.size + 1, 0, none⟩) (n + 1) (n + 1)]) ∧
      (∃ L B, Inv w.heap.size n (n + 1) (n + 1) L B w') ∧ Below w.heap.size w w' := by
  have hmm := run_makeMapN
  have hmk : ∀ w, (Instr.makeSlice 24 (.int .i64 (n + 1)) (.int .i64 (n + 1))).run Yba.prog w = .ok (.slice (some ⟨w.heap.size, 0, none⟩) (n + 1) (n + 1)) (w.alloc (.cells (nils (n + 1)) 27)) := fun w => by
    have := run_makeLinks w ((n : Int) + 1) ((n : Int) + 1) (by omega) (by omega) (by omega)
    rw [show ((n : Int) + 1).toNat = n + 1 by omega] at this
    exact this
  have hn0 := nils_get0 n
  go_enter Yba.func5, Yba.ntmps5
  go_upto_region 3 with fail
  go_cut [] (fun wc => ∃ L B, Inv w.heap.size n 1 0 L B wc ∧ Below w.heap.size w wc)
  case first =>
    go_wp2_with fail
    refine (hash_any 0 _ (by omega) (by omega)).mono ?_
    rintro e w' ⟨rfl, rfl⟩
    go_wp2_with fail
    go_meet
    case rel =>
      refine ⟨_, _, inv_start w n, ?_⟩
      exact (((((((Below.refl _ _).alloc (Nat.le_refl _) _).alloc (by simp) _).alloc (by simp; omega) _).alloc (by simp; omega) _).alloc (by simp; omega) _).alloc (by simp; omega) _)
  case rest =>
    obtain ⟨L, B, hi, hb⟩ := hcut
    have st : ∀ {m : Nat} {w' : World}, Inv w.heap.size n 1 m L B w' → w'.cell? ⟨w.heap.size + 1, 0, none⟩ = some (.pointer (some ⟨L 0, 0, none⟩)) ∧ w'.rangeAt (L 0) 1 (hA 0).toList := fun h =>
      ⟨by rw [cell_of_heap h.row]; exact rowA_get L (by omega) (by omega), range_link (h.link 0 (by omega))⟩
    have s1 := hide (st (w' := wc.drew) (hi.drewN 1))
    have s2 := hide (st (w' := setBlock wc.drew w.heap.size (.map (ents L 1) 1)) (Inv.put (w := wc.drew) (hi.drewN 1)))
    clear st
    have hu := Yba.underlying30
    have hz : (Yba.prog.info? 30).map (·.size) = some (hA 0).toList.length := by rw [size30]; simp [hA_size]
    have hl : (hA 0).toList.length = 32 := by simp [hA_size]
    have hp : (Instr.mapUpdate 23 (.map (some w.heap.size)) (.agg (hA 0)) (.pointer (some ⟨L 0, 0, none⟩))).run Yba.prog wc.drew = .ok () (setBlock wc.drew w.heap.size (.map (ents L 1) 1)) :=
      run_put (w := wc.drew) (b := w.heap.size) (L := L) (k := 0) hi.map (by omega) (L 0) rfl
    go_upto_region 4 with fail
    go_cut [] (fun wd => ∃ L B, Inv w.heap.size n 1 1 L B wd ∧ Below w.heap.size w wd)
    case first =>
      go_region_held3 (fun w' => w'.cell? ⟨w.heap.size + 1, 0, none⟩ = some (.pointer (some ⟨L 0, 0, none⟩)) ∧ w'.rangeAt (L 0) 1 (hA 0).toList) (first | exact unhide s1 | exact unhide s2) (fail)
      go_wp2
      go_meet
      case rel => exact ⟨L, B, Inv.put (w := wc.drew) (hi.drewN 1), below_setBlock hb.drew (Nat.le_refl _) _⟩
    case rest =>
      clear s1 s2 hz hl hp hi hb
      obtain ⟨L, B, hi, hb⟩ := hcut
      go_wp2_with fail
      go_loopg [6] n (fun g i wr => ∃ (j : Nat) (L B : Nat → Nat), j ≤ n ∧ g = n - j ∧ i = .int .i64 ((j : Int) + 1) ∧ Inv w.heap.size n (j + 1) (j + 1) L B wr ∧ Below w.heap.size w wr)
      case atStart => exact ⟨0, L, B, by omega, by omega, rfl, hi, hb⟩
      case round =>
        clear hi hb L B
        obtain ⟨j, L, B, hjn, hg, rfl, hi, hb⟩ := hrel
        by_cases hlt : j < n
        · have st : ∀ {w' : World}, Inv w.heap.size n (j + 1) (j + 1) L B w' → w'.cell? ⟨w.heap.size + 1, j, none⟩ = some (.pointer (some ⟨L j, 0, none⟩)) ∧ w'.rangeAt (L j) 1 (hA j).toList := fun h =>
            ⟨by rw [cell_of_heap h.row]; exact rowA_get L (by omega) (by omega), range_link (h.link j (by omega))⟩
          have keep : ∀ {w' : World}, Below wr.heap.size wr w' → (w'.cell? ⟨w.heap.size + 1, j, none⟩ = some (.pointer (some ⟨L j, 0, none⟩)) ∧ w'.rangeAt (L j) 1 (hA j).toList) ∧ Below wr.heap.size wr w' := fun h => ⟨st (hi.below h), h⟩
          clear st
          have q0 : (0 : Int) ≤ (j : Int) := by omega
          have q1 : (j : Int) < (n : Int) + 1 := by omega
          have q2 : IntKind.i64.wrap (j : Int) = j := by rw [IntKind.wrap_i64]; omega
          have q3 : IntKind.i64.wrap ((j : Int) + 1 - 1) = j := by rw [IntKind.wrap_i64]; omega
          have q4 : j < n + 1 := by omega
          have hz : (Yba.prog.info? 30).map (·.size) = some (hA j).toList.length := by rw [size30]; simp [hA_size]
          have hl : (hA j).toList.length = 32 := by simp [hA_size]
          go_upto_region 8 with fail
          go_cut [7] (fun l wd => ∃ lb bb, l = .pointer (some ⟨lb, 0, none⟩) ∧ wr.heap.size ≤ lb ∧ wd.heap[lb]? = some (.cells (lkA (some ⟨bb, 0, none⟩) (hA (j + 1)) (j + 1)) 38) ∧
            wd.heap[bb]? = some (.cells (bkA (j + 1) (hA j)) 35) ∧ Below wr.heap.size wr wd)
          case first =>
            go_region_held3 (fun w' => (w'.cell? ⟨w.heap.size + 1, j, none⟩ = some (.pointer (some ⟨L j, 0, none⟩)) ∧ w'.rangeAt (L j) 1 (hA j).toList) ∧ Below wr.heap.size wr w')
              (refine keep ?_ <;> repeat (first | exact Below.refl _ _ | refine Below.drew ?_ | refine Below.alloc ?_ (by first | (simp; done) | (simp; omega)) _))
              ((go_at_call 6; refine (hash_any _ _ (by omega) (by omega)).mono ?_; rintro e w' ⟨rfl, rfl⟩))
            · go_wp2
              go_meet
              case rel => exact ⟨wr.heap.size + 1 + 1 + 1, wr.heap.size, rfl, by omega, new _ _ _ (by simp), old _ _ _ _ (old _ _ _ _ (old _ _ _ _ (new _ _ _ rfl))), by apply And.right; assumption⟩
            · go_wp2
              go_meet
              case rel => exact ⟨wr.heap.size + 1 + 1 + 1, wr.heap.size + 1 + 1, rfl, by omega, new _ _ _ (by simp), old _ _ _ _ (new _ _ _ (by simp)), by apply And.right; assumption⟩
          case rest =>
            clear keep
            obtain ⟨lb, bb, rfl, hlb, hlk, hbk, hbe⟩ := hcut
            have ec : ((j + 1 : Nat) : Int) = (j : Int) + 1 := by omega
            have hm := hi.more (Nat.le_refl _) hbe hlb (by rw [ec]; exact hlk) (by rw [ec]; exact hbk)
            have hf : Hid (Inv w.heap.size n (j + 1 + 1) (j + 1 + 1) _ _ _) := hide hm.put
            have cM : wc.cell? ⟨w.heap.size + 1, j + 1, none⟩ = some (.pointer none) := by rw [cell_of_heap (hi.below hbe).row]; exact rowA_nil L (by omega) (by omega)
            have fM : wc.frozen? ⟨w.heap.size + 1, j + 1, none⟩ = false := free_of_heap (hi.below hbe).row _
            have hr := hide (range_link (hm.link (j + 1) (by omega)))
            simp only [if_true, ec] at hr
            have hz' := hide (show (Yba.prog.info? 30).map (·.size) = some (hA ((j : Int) + 1)).toList.length by rw [size30]; simp [hA_size])
            have hp := run_put hm.map (by omega) lb (by simp)
            rw [ec] at hp
            have hbw := hide ((hb.trans (hbe.mono hb.size)).setCell (p := ⟨w.heap.size + 1, j + 1, none⟩) (by show w.heap.size ≤ w.heap.size + 1; omega) (.pointer (some ⟨lb, 0, none⟩)))
            clear hm hlk hbk hz hl hu hmm hmk hn0
            go_wp2_with (refine wpList_load_mid rfl 30 _ rfl lb 1 rfl (hA ((j : Int) + 1)).toList _ (unhide hr) Yba.underlying30 rfl (unhide hz') ?_)
            go_roundg (n - (j + 1))
            case measure => omega
            case rel => exact ⟨j + 1, _, _, by omega, rfl, by go_num, unhide hf, below_setBlock (unhide hbw) (Nat.le_refl _) _⟩
        · obtain rfl : j = n := by omega
          go_wp2_with fail
          go_ret2
          exact ⟨rfl, ⟨L, B, hi⟩, hb⟩
end Go.Proofs.Ybulkbqtq
