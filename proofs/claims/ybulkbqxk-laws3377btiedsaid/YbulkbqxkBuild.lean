import Derived.Test.YbulkbqxkReskip
import Derived.Test.YbulkbqxkUniq
import Derived.Laws.MakeOwn
/-
  THE WALK OF 'zzs3377bbuild'.
-/
namespace Go.Proofs.Ybulkbqxk
open Go.RowKit Go.Sort

set_option maxHeartbeats 4000000 in
set_option maxRecDepth 100000 in
theorem reskip_zero (g cap : Nat) (ia : Option Addr) (ks : Nat → ByteArray) (cur : Array Value) (w : World) (row : w.heap[g]? = some (.cells cur 33)) (size : cur.size = 155) (items : cur[0]? = some (.slice ia 0 cap)) :
    Calls Yba.prog 15 #[.pointer (some ⟨g, 0, none⟩)] w fun e w' => e = .returned (.tuple #[]) ∧ Below g w w' ∧ ∃ skip, Good w' g ia 0 cap ks skip := by
  obtain ⟨u, hu⟩ : ∃ u, cur[2]? = some u := ⟨_, Array.getElem?_eq_getElem (by rw [size]; omega)⟩
  have c2 : w.cell? ⟨g, 2, none⟩ = some u := (cell_row row 2).trans hu
  have f2 : w.frozen? ⟨g, 2, none⟩ = false := free_row row 2
  have r1 : (w.setCell ⟨g, 2, none⟩ (.int .i64 0)).heap[g]? = some (.cells (cur.setIfInBounds 2 (.int .i64 0)) 33) := row_set row _
  have c0 : (w.setCell ⟨g, 2, none⟩ (.int .i64 0)).cell? ⟨g, 0, none⟩ = some (.slice ia 0 cap) := (cell_row r1 0).trans (by rw [Array.getElem?_setIfInBounds_ne (by omega)]; exact items)
  have c2' : (w.setCell ⟨g, 2, none⟩ (.int .i64 0)).cell? ⟨g, 2, none⟩ = some (.int .i64 ((0 : Nat) : Int)) := (cell_row r1 2).trans (by rw [Array.getElem?_setIfInBounds_self_of_lt (by rw [size]; omega)]; rfl)
  have hb : Below g w (w.setCell ⟨g, 2, none⟩ (.int .i64 0)) := (Below.refl _ _).setCell (p := ⟨g, 2, none⟩) (Nat.le_refl g) _
  have HG : Hid (Below g w (w.setCell ⟨g, 2, none⟩ (.int .i64 0)) ∧ Good (w.setCell ⟨g, 2, none⟩ (.int .i64 0)) g ia 0 cap ks 0) :=
    ⟨hb, ⟨c0, c2', fun j hj => by omega, fun j _ hj => by omega, fun j hj => by omega, by omega, fun j hj => by omega, fun j hj => by omega⟩, fun i j _ hj => by omega, fun j hj => by omega⟩
  clear c2' r1 hb
  obtain ⟨W, eW⟩ : ∃ W, w.setCell ⟨g, 2, none⟩ (.int .i64 0) = W := ⟨_, rfl⟩
  rw [eW] at HG c0
  go_enter Yba.func15, Yba.ntmps15
  go_wp2_with fail
  (try simp only [Exit.inBlock, Exit.then])
  refine bodyPost_ret (results_none rfl _ _ _) rfl ?_
  exact ⟨rfl, HG.out.1, 0, HG.out.2⟩

/-- the node's cells as they are laid -/
def nodeA (a : Option Addr) (n c : Nat) : Array Value := #[.slice a n c, .slice none 0 0, .int .i64 0, .pointer none] ++ Array.replicate 24 (.int .u8 0) ++ Array.replicate 127 (.int .u64 0)
def bld (t : TypeId) (ps : Array (Nat × Value)) : Sem Value := Instr.build t ps
theorem fold_bld (t : TypeId) (ps : Array (Nat × Value)) : Instr.build t ps = bld t ps := rfl
theorem run_node (w : World) (a : Option Addr) (n c : Nat) : (bld 33 #[(0, .slice a n c)]).run Yba.prog w = .ok (.agg (nodeA a n c)) w := by kernel_rfl
theorem run_item (w : World) (s : ByteArray) (i : Int) : (bld 37 #[(0, .string s), (1, .int .i64 i)]).run Yba.prog w = .ok (.agg #[.string s, .int .i64 i]) w := by kernel_rfl
theorem nodeA_size (a : Option Addr) (n c : Nat) : (nodeA a n c).size = 155 := by simp [nodeA]
theorem nodeA_0 (a : Option Addr) (n c : Nat) : (nodeA a n c)[0]? = some (.slice a n c) := by simp [nodeA]
theorem nodeA_3 (a : Option Addr) (n c : Nat) : (nodeA a n c)[3]? = some (.pointer none) := by simp [nodeA]
theorem info37 : (Yba.prog.info? 37).map (fun i => (i.zero, i.size, i.bytes)) = some (some (.agg #[.string ⟨#[]⟩, .int .i64 0]), 2, 24) := by kernel_rfl

/-- n empty items -/
def zit (n : Nat) : Array Value := madeCells (Value.agg #[.string ⟨#[]⟩, .int .i64 0]).cells (n * 2)
theorem zit_size (n : Nat) : (zit n).size = n * 2 := by simp [zit, madeCells]
theorem run_mk (w : World) (n : Nat) (hn : n ≤ 127) :
    (Instr.makeSlice 26 (.int .i64 n) (.int .i64 n)).run Yba.prog w = .ok (.slice (some ⟨w.heap.size, 0, none⟩) n n) (w.alloc (.cells (zit n) 37)) := by
  obtain ⟨i, hi, hz, hs, hb⟩ := info_parts info37
  rw [run_make w 26 37 i _ Yba.underlying26 hi hz .i64 .i64 (n : Int) (n : Int) (by omega) (by omega) (by rw [hb]; omega) (by omega), hs]
  simp [zit]

theorem uniq_mem {ss : List Str} {x : Str} (h : x ∈ uniq ss) : x ∈ ss := by
  unfold uniq Lib.compact Lib.compactUpTo at h
  simp only [List.mem_map, List.mem_filter, List.mem_range] at h
  obtain ⟨i, ⟨hi, _⟩, rfl⟩ := h
  have hi2 : i < (ss.mergeSort fun x y => decide (x ≤ y)).toArray.size := by rw [List.size_toArray]; exact hi
  rw [getElem!_pos (ss.mergeSort fun x y => decide (x ≤ y)).toArray i hi2]
  have : (ss.mergeSort fun x y => decide (x ≤ y))[i]'hi ∈ ss := (List.mergeSort_perm ss _).mem_iff.1 (List.getElem_mem hi)
  exact this

/-- the strings as Go's -/
def strAt (T : List Str) (j : Nat) : ByteArray := ⟨(T.getD j []).toArray⟩
theorem strAt_list (T : List Str) (j : Nat) : (strAt T j).toList = T.getD j [] := by rw [ByteArray.toList_eq]; rfl
theorem strAt_sorted (ss : List Str) (i j : Nat) (hij : i < j) (hj : j < (uniq ss).length) : (strAt (uniq ss) i).toList < (strAt (uniq ss) j).toList := by
  have h := uniq_pw ss
  rw [List.pairwise_iff_getElem] at h
  have := h i j (by omega) hj hij
  rw [strAt_list, strAt_list, List.getD_eq_getElem?_getD, List.getD_eq_getElem?_getD, List.getElem?_eq_getElem hj, List.getElem?_eq_getElem (by omega)]
  exact this
theorem strAt_size (ss : List Str) (hsz : ∀ s ∈ ss, s.length ≤ 9223372036854775000) (j : Nat) (hj : j < (uniq ss).length) : (strAt (uniq ss) j).size ≤ 9223372036854775000 := by
  rw [← size_len, strAt_list, List.getD_eq_getElem?_getD, List.getElem?_eq_getElem hj]
  exact hsz _ (uniq_mem (List.getElem_mem hj))
theorem strAt_cells {w : World} {g : Nat} {T : List Str} (h : Holds encStr w g 0 T.toArray) (j : Nat) (hj : j < T.length) : w.cell? ⟨g, j, none⟩ = some (.string (strAt T j)) := by
  have := (h j (by simpa using hj)).1
  rw [Nat.zero_add] at this
  rw [this, getElem!_pos T.toArray j (by simpa using hj)]
  unfold strAt encStr
  rw [List.getD_eq_getElem?_getD, List.getElem?_eq_getElem hj]
  rfl

section
attribute [local go_sem ↓] fold_bld
set_option maxHeartbeats 4000000 in
set_option maxRecDepth 100000 in
/-- behind the three library calls: m strings S, sorted, each once, in a row of the call's own -/
theorem build_walk (arg : Value) (w : World) (ss : List Str) (len : Nat)
    (hclone : Calls Yba.prog 12 #[arg] w fun e w' => ∃ v', e = .returned v' ∧ w'.ownsRow w.heap.size 9 1 v' len (ss.map encStr) ∧ v' ≠ .slice none 0 0 ∧ Below w.heap.size w w') (hl : len ≤ 1024) (hsz : ∀ s ∈ ss, s.length ≤ 9223372036854775000) :
    Calls Yba.prog 6 #[arg] w fun e w' => ∃ g ia m cap ks skip, e = .returned (.pointer (some ⟨g, 0, none⟩)) ∧ Good w' g ia m cap ks skip ∧ Below w.heap.size w w' := by
  have HC : Hid (Calls Yba.prog 12 #[arg] w fun e w' => ∃ v', e = .returned v' ∧ w'.ownsRow w.heap.size 9 1 v' len (ss.map encStr) ∧ v' ≠ .slice none 0 0 ∧ Below w.heap.size w w') := hclone
  clear hclone
  go_enter Yba.func6, Yba.ntmps6
  go_wp2_with fail
  refine HC.out.mono ?_
  rintro e w1 ⟨v1, rfl, hown, hnn, hbel⟩
  obtain ⟨g, cap, rfl, hbg, hgl, hncap, hcm, hlen, hH⟩ := Lib.holds_of_ownsRow hown hnn
  subst hlen
  go_wp2_with fail
  refine (sort_c g 0 cap ss w1 hH hgl (by omega)).mono ?_
  rintro e w2 ⟨rfl, nn, os, rfl⟩
  have hl2 : (ss.mergeSort fun x y => decide (x ≤ y)).length = ss.length := List.length_mergeSort ss
  have hH2 : Holds encStr (grow (putRow encStr (Sort.ahead w1 nn) g 0 (ss.mergeSort fun x y => decide (x ≤ y)).toArray) os) g 0 (ss.mergeSort fun x y => decide (x ≤ y)).toArray :=
    holds_grow encStr _ os g 0 _ (by simpa [putRow, mapBlock, Sort.ahead] using hgl) (holds_putRow encStr _ g 0 _ _ (holds_ahead encStr w1 nn g 0 _ hH) (by simp))
  have hcomp := compact_c g 0 cap (ss.mergeSort fun x y => decide (x ≤ y)) _ hH2 (by omega) (by omega)
  rw [hl2] at hcomp
  go_wp2_with fail
  refine hcomp.mono ?_
  rintro e w3 ⟨rfl, q, rfl⟩
  obtain ⟨hown3, hb3⟩ := left_of (nn := nn) (q := q) (os := os) hown hbel hbg rfl
  obtain ⟨W3, e3⟩ : ∃ W3, putRow encStr (Sort.ahead (grow (putRow encStr (Sort.ahead w1 nn) g 0 (ss.mergeSort fun x y => decide (x ≤ y)).toArray) os) q) g 0 (Lib.compact (ss.mergeSort fun x y => decide (x ≤ y)) ++ List.replicate (ss.length - (Lib.compact (ss.mergeSort fun x y => decide (x ≤ y))).length) []).toArray = W3 := ⟨_, rfl⟩
  rw [e3] at hown3 hb3 ⊢
  have em : (Lib.compact (ss.mergeSort fun x y => decide (x ≤ y))).length = (uniq ss).length := rfl
  rw [em]
  clear e3 em hcomp hH2 hl2 hown hbel hH hnn
  obtain ⟨g', cap', ev, _, hgl3, hncap3, _, _, hH3⟩ := Lib.holds_of_ownsRow hown3 (by simp)
  cases ev
  have HS : Hid ((∀ j, j < (uniq ss).length → W3.cell? ⟨g, j, none⟩ = some (.string (strAt (uniq ss) j))) ∧ (∀ i j, i < j → j < (uniq ss).length → (strAt (uniq ss) i).toList < (strAt (uniq ss) j).toList) ∧ (∀ j, j < (uniq ss).length → (strAt (uniq ss) j).size ≤ 9223372036854775000) ∧ Below w.heap.size w W3) :=
    ⟨strAt_cells hH3, strAt_sorted ss, strAt_size ss hsz, hb3⟩
  obtain ⟨m, em⟩ : ∃ m, (uniq ss).length = m := ⟨_, rfl⟩
  obtain ⟨S, eS⟩ : ∃ S, strAt (uniq ss) = S := ⟨_, rfl⟩
  rw [em, eS] at HS
  rw [em] at hncap3 ⊢
  clear em eS hown3 hH3 hb3 hsz hcm hgl HC hncap
  go_upto_if 15 with fail
  go_cut [3] (fun v wd => ∃ n : Nat, n ≤ 127 ∧ v = .slice (some ⟨g, 0, none⟩) n cap ∧ Hid ((∀ j, j < n → wd.cell? ⟨g, j, none⟩ = some (.string (S j))) ∧ (∀ i j, i < j → j < n → (S i).toList < (S j).toList) ∧ (∀ j, j < n → (S j).size ≤ 9223372036854775000) ∧ Below w.heap.size w wd ∧ g < wd.heap.size))
  case first =>
    by_cases hm : m ≤ 127
    · have q : ¬ (127 : Int) < (m : Int) := by omega
      go_wp2_with fail
      go_meet
      case rel => exact ⟨m, hm, rfl, HS.out.1, HS.out.2.1, HS.out.2.2.1, HS.out.2.2.2, hgl3⟩
    · have q : (127 : Int) < (m : Int) := by omega
      have q2 : (127 : Int) ≤ (cap : Int) := by omega
      go_wp2_with fail
      go_meet
      case rel => exact ⟨127, Nat.le_refl _, rfl, fun j hj => HS.out.1 j (by omega), fun i j hij hj => HS.out.2.1 i j hij (by omega), fun j hj => HS.out.2.2.1 j (by omega), HS.out.2.2.2, hgl3⟩
  case rest =>
    clear HS hgl3 hncap3 W3
    obtain ⟨n, hn, rfl, HS⟩ := hcut
    have hmk := fun w => run_mk w n hn
    have hit := run_item
    have hnd := run_node
    have hN : Hid (Below wc.heap.size wc (wc.alloc (.cells (zit n) 37)) ∧ (wc.alloc (.cells (zit n) 37)).heap[wc.heap.size]? = some (.cells (zit n) 37)) := ⟨(Below.refl _ _).alloc (Nat.le_refl _) _, heap_alloc_new wc _⟩
    go_wp2_with fail
    obtain ⟨N, eN⟩ : ∃ N, wc.heap.size = N := ⟨_, rfl⟩
    rw [eN] at hN
    rw [eN]
    obtain ⟨W4, e4⟩ : ∃ W4, wc.alloc (.cells (zit n) 37) = W4 := ⟨_, rfl⟩
    rw [e4] at hN ⊢
    go_loopg [5] n (fun gg x wr => ∃ (j : Nat) (cc : Array Value), j ≤ n ∧ gg = n - j ∧ x = .int .i64 (j : Int) ∧ Hid (Below N wc wr ∧ wr.heap[N]? = some (.cells cc 37) ∧ cc.size = n * 2 ∧ ∀ t, t < j → cc[t * 2]? = some (.string (S t))))
    case atStart => exact ⟨0, zit n, by omega, by omega, rfl, hN.out.1, hN.out.2, zit_size n, fun t ht => by omega⟩
    case round =>
      clear hN e4 hmk
      clear W4
      obtain ⟨j, cc, hj, hg, rfl, hI⟩ := hrel
      have hg' : Hid (gk = n - j) := hg
      clear hg
      by_cases hjn : j < n
      · have q1 : (j : Int) < (n : Int) := by omega
        have ck : wr.cell? ⟨g, j, none⟩ = some (.string (S j)) := (hI.out.1.cell (p := ⟨g, j, none⟩) (by have := HS.out.2.2.2.2; rw [eN] at this; exact this)).trans (HS.out.1 j hjn)
        obtain ⟨u0, hu0⟩ : ∃ u, cc[j * 2]? = some u := ⟨_, Array.getElem?_eq_getElem (by rw [hI.out.2.2.1]; omega)⟩
        obtain ⟨u1, hu1⟩ : ∃ u, cc[j * 2 + 1]? = some u := ⟨_, Array.getElem?_eq_getElem (by rw [hI.out.2.2.1]; omega)⟩
        have d0 : wr.cell? ⟨N, j * 2, none⟩ = some u0 := (cell_row hI.out.2.1 _).trans hu0
        have d1 : wr.cell? ⟨N, j * 2 + 1, none⟩ = some u1 := (cell_row hI.out.2.1 _).trans hu1
        have f0 : wr.frozen? ⟨N, j * 2, none⟩ = false := free_row hI.out.2.1 _
        have f1 : wr.frozen? ⟨N, j * 2 + 1, none⟩ = false := free_row hI.out.2.1 _
        have hw3 : IntKind.i64.wrap ((j : Int) + 1) = ((j + 1 : Nat) : Int) := by rw [wrap_id _ (by omega) (by omega)]; omega
        have Hn : Hid (Below N wc ((wr.setCell ⟨N, j * 2, none⟩ (.string (S j))).setCell ⟨N, j * 2 + 1, none⟩ (.int .i64 (j : Int))) ∧
            ((wr.setCell ⟨N, j * 2, none⟩ (.string (S j))).setCell ⟨N, j * 2 + 1, none⟩ (.int .i64 (j : Int))).heap[N]? = some (.cells ((cc.setIfInBounds (j * 2) (.string (S j))).setIfInBounds (j * 2 + 1) (.int .i64 (j : Int))) 37) ∧
            ((cc.setIfInBounds (j * 2) (.string (S j))).setIfInBounds (j * 2 + 1) (.int .i64 (j : Int))).size = n * 2 ∧
            ∀ t, t < j + 1 → ((cc.setIfInBounds (j * 2) (.string (S j))).setIfInBounds (j * 2 + 1) (.int .i64 (j : Int)))[t * 2]? = some (.string (S t))) := by
          refine ⟨(hI.out.1.setCell (p := ⟨N, j * 2, none⟩) (Nat.le_refl N) _).setCell (p := ⟨N, j * 2 + 1, none⟩) (Nat.le_refl N) _, row_set (row_set hI.out.2.1 _) _, by simp [hI.out.2.2.1], fun t ht => ?_⟩
          rw [Array.getElem?_setIfInBounds_ne (by omega)]
          by_cases htj : t = j
          · subst htj
            rw [Array.getElem?_setIfInBounds_self_of_lt (by rw [hI.out.2.2.1]; omega)]
          · rw [Array.getElem?_setIfInBounds_ne (by omega)]
            exact hI.out.2.2.2 t (by omega)
        have Hj : Hid (j < n) := hjn
        clear hu0 hu1 hI hjn
        go_wp2_with fail
        go_roundg (n - (j + 1))
        case measure => have := hg'.out; have := Hj.out; omega
        case rel => exact ⟨j + 1, _, Hj.out, rfl, by go_num, Hn⟩
      · obtain rfl : j = n := by omega
        have q1 : ¬ (j : Int) < (j : Int) := by omega
        have hlt : N < wr.heap.size := lt_row hI.out.2.1
        have hrow : (wr.alloc (.cells (nodeA (some ⟨N, 0, none⟩) j j) 33)).heap[wr.heap.size]? = some (.cells (nodeA (some ⟨N, 0, none⟩) j j) 33) := heap_alloc_new wr _
        have hbw : Below wr.heap.size wr (wr.alloc (.cells (nodeA (some ⟨N, 0, none⟩) j j) 33)) := (Below.refl _ _).alloc (Nat.le_refl _) _
        have Hcall : Hid (Calls Yba.prog 15 #[.pointer (some ⟨wr.heap.size, 0, none⟩)] (wr.alloc (.cells (nodeA (some ⟨N, 0, none⟩) j j) 33)) fun e w' => e = .returned (.tuple #[]) ∧ Below wr.heap.size (wr.alloc (.cells (nodeA (some ⟨N, 0, none⟩) j j) 33)) w' ∧ ∃ skip, Good w' wr.heap.size (some ⟨N, 0, none⟩) j j S skip) := by
          rcases Nat.eq_zero_or_pos j with h0 | h0
          · subst h0
            exact reskip_zero _ _ _ S _ _ hrow (nodeA_size _ _ _) (nodeA_0 _ _ _)
          · refine reskip_any _ N j j S _ _ ⟨hrow, nodeA_size _ _ _, nodeA_0 _ _ _, nodeA_3 _ _ _, fun t ht => ?_, hlt, hn, HS.out.2.2.1, HS.out.2.1⟩ h0
            have e1 : wr.cell? ⟨N, t * 2, none⟩ = some (.string (S t)) := (cell_row hI.out.2.1 _).trans (hI.out.2.2.2 t ht)
            exact (hbw.cell (p := ⟨N, t * 2, none⟩) hlt).trans e1
        have HB : Hid (∀ w', Below wr.heap.size (wr.alloc (.cells (nodeA (some ⟨N, 0, none⟩) j j) 33)) w' → Below w.heap.size w w') := fun w' h' => by
          have b1 : Below w.heap.size w wc := HS.out.2.2.2.1
          have b2 : Below w.heap.size wc wr := hI.out.1.mono (by rw [← eN]; exact b1.size)
          have b3 : Below w.heap.size wr w' := (hbw.trans h').mono (by have := b1.size; rw [eN] at this; omega)
          exact (b1.trans b2).trans b3
        clear HS hI hrow hbw
        go_wp2_with fail
        refine Hcall.out.mono ?_
        rintro e w' ⟨rfl, hb, skip, hG⟩
        have HG : Hid (Below w.heap.size w w' ∧ Good w' wr.heap.size (some ⟨N, 0, none⟩) j j S skip) := ⟨HB.out w' hb, hG⟩
        clear hb hG
        go_wp2_with fail
        go_ret
        exact ⟨_, _, _, _, _, _, rfl, HG.out.2, HG.out.1⟩
end
end Go.Proofs.Ybulkbqxk
