import Derived.Test.YbulkbqxkKeep
import Derived.Test.YbulkbqxkModel
import Derived.Lib.LazyBuf
/-
  THE WALK OF 'reskip': behind it the node is laid as search wants it.
-/
namespace Go.Proofs.Ybulkbqxk
open Go.RowKit

/-- n keys ks, behind the node in block g, whose cells are cur -/
structure Raw (w : World) (g ib n cap : Nat) (ks : Nat → ByteArray) (cur : Array Value) : Prop where
  row : w.heap[g]? = some (.cells cur 33)
  size : cur.size = 155
  items : cur[0]? = some (.slice (some ⟨ib, 0, none⟩) n cap)
  h3 : cur[3]? = some (.pointer none)
  key : ∀ j, j < n → w.cell? ⟨ib, j * 2, none⟩ = some (.string (ks j))
  far : ib < g
  le : n ≤ 127
  mx : ∀ j, j < n → (ks j).size ≤ 9223372036854775000
  sorted : ∀ i j, i < j → j < n → (ks i).toList < (ks j).toList

/-- reskip under way: skip is set, the prefix lies where pre says so, and m heads -/
structure St (w0 : World) (g ib n cap : Nat) (ks : Nat → ByteArray) (skip : Nat) (pre : Prop) (m : Nat) (w : World) (cur : Array Value) : Prop where
  below : Below g w0 w
  row : w.heap[g]? = some (.cells cur 33)
  size : cur.size = 155
  items : cur[0]? = some (.slice (some ⟨ib, 0, none⟩) n cap)
  sk : cur[2]? = some (.int .i64 (skip : Int))
  h3 : cur[3]? = some (.pointer none)
  pre : pre → ∀ t, t < 24 → t < skip → cur[4 + t]? = some (.int .u8 (byt (ks 0) t : Nat))
  hd : ∀ t, t < m → cur[28 + t]? = some (.int .u64 (headN (ks t) skip : Nat))

theorem St.setSkip {w0 w : World} {g ib n cap : Nat} {ks : Nat → ByteArray} {s : Nat} {cur : Array Value} (h : St w0 g ib n cap ks s False 0 w cur) (k s' : Nat) :
    St w0 g ib n cap ks s' False 0 ((w.drewN k).setCell ⟨g, 2, none⟩ (.int .i64 (s' : Int))) (cur.setIfInBounds 2 (.int .i64 (s' : Int))) := by
  refine ⟨(below_drewN h.below k).setCell (p := ⟨g, 2, none⟩) (Nat.le_refl g) _, row_set (w := w.drewN k) h.row _, by simp [h.size], ?_, ?_, ?_, fun h => h.elim, fun t ht => by omega⟩
  · rw [Array.getElem?_setIfInBounds_ne (by omega)]; exact h.items
  · rw [Array.getElem?_setIfInBounds_self_of_lt (by rw [h.size]; omega)]
  · rw [Array.getElem?_setIfInBounds_ne (by omega)]; exact h.h3

theorem St.setHead {w0 w : World} {g ib n cap : Nat} {ks : Nat → ByteArray} {s : Nat} {pre : Prop} {m : Nat} {cur : Array Value} (h : St w0 g ib n cap ks s pre m w cur) (k : Nat) (hm : m < 127) :
    St w0 g ib n cap ks s pre (m + 1) ((w.drewN k).setCell ⟨g, 28 + m, none⟩ (.int .u64 (headN (ks m) s : Nat))) (cur.setIfInBounds (28 + m) (.int .u64 (headN (ks m) s : Nat))) := by
  have e : ∀ j, j ≠ 28 + m → (cur.setIfInBounds (28 + m) (.int .u64 (headN (ks m) s : Nat)))[j]? = cur[j]? := fun j hj => by rw [Array.getElem?_setIfInBounds_ne (by omega)]
  refine ⟨(below_drewN h.below k).setCell (p := ⟨g, 28 + m, none⟩) (Nat.le_refl g) _, row_set (w := w.drewN k) h.row _, by simp [h.size], (e 0 (by omega)).trans h.items, (e 2 (by omega)).trans h.sk, (e 3 (by omega)).trans h.h3, fun hp t h1 h2 => (e _ (by omega)).trans (h.pre hp t h1 h2), fun t ht => ?_⟩
  by_cases htm : t = m
  · subst htm
    rw [Array.getElem?_setIfInBounds_self_of_lt (by rw [h.size]; omega)]
  · exact (e _ (by omega)).trans (h.hd t (by omega))

theorem St.drewN {w0 w : World} {g ib n cap : Nat} {ks : Nat → ByteArray} {s : Nat} {pre : Prop} {m : Nat} {cur : Array Value} (h : St w0 g ib n cap ks s pre m w cur) (k : Nat) : St w0 g ib n cap ks s pre m (w.drewN k) cur :=
  ⟨below_drewN h.below k, h.row, h.size, h.items, h.sk, h.h3, h.pre, h.hd⟩

theorem below_setCells' {B b : Nat} {a : World} (hb : B ≤ b) : ∀ (vs : List Value) (o : Nat) (w : World), Below B a w → Below B a (w.setCells b o vs)
  | [], _, _, h => h
  | v :: r, o, _, h => below_setCells' hb r (o + 1) _ (h.setCell (p := ⟨b, o, none⟩) hb v)

theorem setCells_row (b : Nat) (t : TypeId) : ∀ (vs : List Value) (o : Nat) (w : World) (cur : Array Value), w.heap[b]? = some (.cells cur t) → o + vs.length ≤ cur.size →
    ∃ cur2, (w.setCells b o vs).heap[b]? = some (.cells cur2 t) ∧ cur2.size = cur.size ∧ (∀ i, i < o ∨ o + vs.length ≤ i → cur2[i]? = cur[i]?) ∧ (∀ i, i < vs.length → cur2[o + i]? = vs[i]?)
  | [], o, w, cur, h, _ => ⟨cur, h, rfl, fun _ _ => rfl, fun i hi => by simp at hi⟩
  | v :: r, o, w, cur, h, hl => by
    simp only [List.length_cons] at hl
    obtain ⟨c2, h1, h2, h3, h4⟩ := setCells_row b t r (o + 1) (w.setCell ⟨b, o, none⟩ v) (cur.setIfInBounds o v) (row_set h v) (by simp; omega)
    refine ⟨c2, h1, by rw [h2]; simp, fun i hi => ?_, fun i hi => ?_⟩
    · simp only [List.length_cons] at hi
      rw [h3 i (by omega), Array.getElem?_setIfInBounds_ne (by omega)]
    · cases i with
      | zero =>
        rw [Nat.add_zero, h3 o (Or.inl (by omega)), Array.getElem?_setIfInBounds_self_of_lt (by omega)]
        rfl
      | succ i =>
        rw [show o + (i + 1) = o + 1 + i by omega, h4 i (by simpa using hi)]
        rfl

/-- the bytes that 'copy(n.prefix[:], s)' lays -/
def preVals (s : ByteArray) (j : Nat) : List Value := (List.range (min j 24)).map fun t => .int .u8 (byt s t : Nat)
theorem preVals_length (s : ByteArray) (j : Nat) : (preVals s j).length = min j 24 := by simp [preVals]

theorem St.setPre {w0 w : World} {g ib n cap : Nat} {ks : Nat → ByteArray} {s : Nat} {cur : Array Value} (h : St w0 g ib n cap ks s False 0 w cur) (k : Nat) :
    ∃ cur2, St w0 g ib n cap ks s True 0 ((w.drewN k).setCells g 4 (preVals (ks 0) s)) cur2 := by
  have hl := preVals_length (ks 0) s
  obtain ⟨c2, h1, h2, h3, h4⟩ := setCells_row g 33 (preVals (ks 0) s) 4 (w.drewN k) cur h.row (by rw [hl, h.size]; omega)
  refine ⟨c2, below_setCells' (Nat.le_refl g) _ _ _ (below_drewN h.below k), h1, h2.trans h.size, (h3 0 (Or.inl (by omega))).trans h.items, (h3 2 (Or.inl (by omega))).trans h.sk, (h3 3 (Or.inl (by omega))).trans h.h3, fun _ t ht hts => ?_, fun t ht => by omega⟩
  rw [h4 t (by rw [hl]; omega)]
  simp only [preVals, List.getElem?_map, List.getElem?_range (show t < min s 24 by omega), Option.map_some]

theorem run_cp (w : World) (A : ByteArray) (j g : Nat) (hj : j ≤ A.size) (cur : Array Value) (h : w.heap[g]? = some (.cells cur 33)) (hs : cur.size = 155) :
    (Builtin.copy_ #[68, 9] 3 #[.slice (some ⟨g, 4, none⟩) 24 24, .string (A.extract 0 j)]).run Yba.prog w = .ok (goInt (min j 24)) (w.setCells g 4 (preVals A j)) := by
  have hz : (A.extract 0 j).size = j := by rw [ByteArray.size_extract]; omega
  have hl : (preVals A j).length = min j 24 := preVals_length A j
  have hst := run_storeCells_cells (P := Yba.prog) g 4 (preVals A j) 0 w (fun t ht => by
      rw [hl] at ht
      rw [cell_row h, Array.getElem?_eq_getElem (by rw [hs]; omega)]
      rfl) (fun t _ => free_row h _) (fun v hv => by
      simp only [preVals, List.mem_map] at hv
      obtain ⟨x, _, rfl⟩ := hv
      rfl)
  have hz5 : ∀ w, (Go.sizeOf 5).run Yba.prog w = .ok 1 w := fun w => by kernel_rfl
  have htk : List.take (min j 24) (List.map (fun x : UInt8 => Value.int .u8 (x.toNat : Int)) A.data.toList) = preVals A j := by
    have sA := size_len A
    rw [← ByteArray.toList_eq]
    apply List.ext_getElem?
    intro t
    by_cases ht : t < min j 24
    · rw [List.getElem?_take_of_lt ht]
      simp only [preVals, List.getElem?_map, List.getElem?_range ht, Option.map_some, byt_eq]
      rw [List.getD_eq_getElem?_getD, List.getElem?_eq_getElem (by omega)]
      rfl
    · rw [List.getElem?_eq_none (by rw [List.length_take]; omega), List.getElem?_eq_none (by rw [hl]; omega)]
  simp only [Nat.add_zero] at hst
  have hmn : ((j.min 24 : Nat) : Int) = min (j : Int) 24 := by
    show ((min j 24 : Nat) : Int) = _
    omega
  simp [Builtin.copy_, run_underlying Yba.underlying68, Builtin.lenOf, Builtin.firstCells, hz5, hz]
  rw [htk, hst, hmn]
  rfl

theorem pre_all (n l : Nat) (ks : Nat → ByteArray) (j : Nat) (hn : 0 < n) (hl : n - 1 = l) (hs : ∀ i j, i < j → j < n → (ks i).toList < (ks j).toList) (h1 : j ≤ (ks 0).size) (h2 : j ≤ (ks l).size)
    (h : ∀ t, t < j → byt (ks 0) t = byt (ks l) t) : ∀ i, i < n → (ks 0).toList.take j <+: (ks i).toList := by
  have e1 := size_len (ks 0)
  have e2 := size_len (ks l)
  have e : (ks 0).toList.take j = (ks l).toList.take j := by
    apply List.ext_getElem?
    intro t
    by_cases ht : t < j
    · rw [List.getElem?_take_of_lt ht, List.getElem?_take_of_lt ht]
      have := h t ht
      rw [byt_eq, byt_eq] at this
      have := u8_eq this
      rw [List.getD_eq_getElem?_getD, List.getD_eq_getElem?_getD, List.getElem?_eq_getElem (by omega), List.getElem?_eq_getElem (by omega)] at this
      rw [List.getElem?_eq_getElem (by omega), List.getElem?_eq_getElem (by omega)]
      exact congrArg some this
    · rw [List.getElem?_eq_none (by rw [List.length_take]; omega), List.getElem?_eq_none (by rw [List.length_take]; omega)]
  intro i hi
  refine pre_between _ ((ks 0).toList.drop j) _ ((ks l).toList.drop j) ?_ ?_
  · rw [List.take_append_drop]
    by_cases h0 : i = 0
    · exact Or.inr (by rw [h0])
    · exact Or.inl (hs 0 i (by omega) hi)
  · rw [e, List.take_append_drop]
    by_cases h0 : i = l
    · exact Or.inr (by rw [h0])
    · exact Or.inl (hs i l (by omega) (by omega))

theorem Raw.st {w : World} {g ib n cap : Nat} {ks : Nat → ByteArray} {cur : Array Value} (R : Raw w g ib n cap ks cur) :
    St w g ib n cap ks 0 False 0 (w.setCell ⟨g, 2, none⟩ (.int .i64 0)) (cur.setIfInBounds 2 (.int .i64 0)) := by
  refine ⟨(Below.refl _ _).setCell (p := ⟨g, 2, none⟩) (Nat.le_refl g) _, row_set R.row _, by simp [R.size], ?_, ?_, ?_, fun h => h.elim, fun t ht => by omega⟩
  · rw [Array.getElem?_setIfInBounds_ne (by omega)]; exact R.items
  · rw [Array.getElem?_setIfInBounds_self_of_lt (by rw [R.size]; omega)]; rfl
  · rw [Array.getElem?_setIfInBounds_ne (by omega)]; exact R.h3

theorem good_of {w0 w w' : World} {g ib n cap j : Nat} {ks : Nat → ByteArray} {cur cur3 : Array Value} (R : Raw w0 g ib n cap ks cur) (S : St w0 g ib n cap ks j True n w cur3)
    (hp : ∀ i, i < n → (ks 0).toList.take j <+: (ks i).toList) (hs : ∀ i, i < n → j ≤ (ks i).size) (hb : Below g w0 w') (hr : ∃ v, w'.heap[g]? = some (.cells (cur3.setIfInBounds 3 v) 33)) : Good w' g (some ⟨ib, 0, none⟩) n cap ks j := by
  obtain ⟨v, row⟩ := hr
  have e : ∀ j, j ≠ 3 → (cur3.setIfInBounds 3 v)[j]? = cur3[j]? := fun j hj => by rw [Array.getElem?_setIfInBounds_ne (by omega)]
  refine ⟨⟨(cell_row row 0).trans ((e 0 (by omega)).trans S.items), (cell_row row 2).trans ((e 2 (by omega)).trans S.sk), fun t ht => ⟨ib, rfl, (hb.cell (p := ⟨ib, t * 2, none⟩) R.far).trans (R.key t ht)⟩, fun t h1 h2 => (cell_row row _).trans ((e _ (by omega)).trans (S.pre trivial t h1 h2)), fun t ht => (cell_row row _).trans ((e _ (by omega)).trans (S.hd t ht)), R.le, hs, R.mx⟩, R.sorted, hp⟩

theorem St.keys {w0 w : World} {g ib n cap j : Nat} {ks : Nat → ByteArray} {cur cur3 : Array Value} (R : Raw w0 g ib n cap ks cur) (S : St w0 g ib n cap ks j True n w cur3) (hs : ∀ i, i < n → j ≤ (ks i).size) :
    Keys w g ib n cap j ks (fun t => headN (ks t) j) cur3 :=
  ⟨S.row, S.size, S.items, S.sk, S.hd, fun t ht => (S.below.cell (p := ⟨ib, t * 2, none⟩) R.far).trans (R.key t ht), R.far, R.le, R.mx, hs⟩

set_option maxHeartbeats 4000000 in
set_option maxRecDepth 100000 in
theorem reskip_any (g ib n cap : Nat) (ks : Nat → ByteArray) (cur : Array Value) (w : World) (R : Raw w g ib n cap ks cur) (hn : 0 < n) :
    Calls Yba.prog 15 #[.pointer (some ⟨g, 0, none⟩)] w fun e w' => e = .returned (.tuple #[]) ∧ Below g w w' ∧ ∃ skip, Good w' g (some ⟨ib, 0, none⟩) n cap ks skip := by
  have HR : Hid (Raw w g ib n cap ks cur) := R
  have hle := R.le
  obtain ⟨u, hu⟩ : ∃ u, cur[2]? = some u := ⟨_, Array.getElem?_eq_getElem (by rw [R.size]; omega)⟩
  have c2 : w.cell? ⟨g, 2, none⟩ = some u := (cell_row R.row 2).trans hu
  have f2 : w.frozen? ⟨g, 2, none⟩ = false := free_row R.row 2
  have S0 := R.st
  obtain ⟨W0, e0⟩ : ∃ W0, w.setCell ⟨g, 2, none⟩ (.int .i64 0) = W0 := ⟨_, rfl⟩
  rw [e0] at S0
  have c0 : W0.cell? ⟨g, 0, none⟩ = some (.slice (some ⟨ib, 0, none⟩) n cap) := (cell_row S0.row 0).trans S0.items
  have c0' : ∀ k, (W0.drewN k).cell? ⟨g, 0, none⟩ = some (.slice (some ⟨ib, 0, none⟩) n cap) := fun _ => c0
  have ck : ∀ j, j < n → W0.cell? ⟨ib, j * 2, none⟩ = some (.string (ks j)) := fun j hj => (S0.below.cell (p := ⟨ib, j * 2, none⟩) R.far).trans (R.key j hj)
  have k0 : ∀ k, (W0.drewN k).cell? ⟨ib, 0, none⟩ = some (.string (ks 0)) := fun k => by have := ck 0 hn; simpa using this
  have k1 : ∀ k, (W0.drewN k).cell? ⟨ib, (n - 1) * 2, none⟩ = some (.string (ks (n - 1))) := fun k => ck (n - 1) (by omega)
  have hwn : IntKind.i64.wrap ((n : Int) - 1) = ((n - 1 : Nat) : Int) := by rw [wrap_id _ (by omega) (by omega)]; omega
  have q1 : ((n - 1 : Nat) : Int) < (n : Int) := by omega
  have q0 : ((n : Int) == 0) = false := by simp; omega
  have q2 : (0 : Int) < (n : Int) := by omega
  obtain ⟨l, el⟩ : ∃ l, n - 1 = l := ⟨_, rfl⟩
  rw [el] at k1 hwn q1
  obtain ⟨A, eA⟩ : ∃ A, ks 0 = A := ⟨_, rfl⟩
  obtain ⟨B, eB⟩ : ∃ B, ks l = B := ⟨_, rfl⟩
  rw [eA] at k0
  rw [eB] at k1
  have HE : Hid (n - 1 = l ∧ ks 0 = A ∧ ks l = B ∧ A.size ≤ 9223372036854775000 ∧ B.size ≤ 9223372036854775000) := ⟨el, eA, eB, by rw [← eA]; exact R.mx 0 hn, by rw [← eB]; exact R.mx l (by omega)⟩
  have HS0 : Hid (St w g ib n cap ks 0 False 0 W0 (cur.setIfInBounds 2 (.int .i64 0))) := S0
  clear ck S0 R el eA eB hu
  go_enter Yba.func15, Yba.ntmps15
  go_wp2_with fail
  go_quiet (fail)
  go_wp2_with fail
  go_loopg [] (A.size + 1) (fun gg wr => ∃ (j : Nat) (cur' : Array Value), gg = A.size + 1 - j ∧ Hid (St w g ib n cap ks j False 0 wr cur' ∧ j ≤ A.size ∧ j ≤ B.size ∧ ∀ t, t < j → byt A t = byt B t))
  case atStart => exact ⟨0, _, rfl, ⟨HS0.out.drewN _, by omega, by omega, fun t ht => by omega⟩⟩
  case round =>
    obtain ⟨j, cur', hg, hI⟩ := hrel
    have hg' : Hid (gk = A.size + 1 - j) := hg
    clear hg HS0 c0 c0' k0 k1 c2 f2 e0 W0 hwn q1 q0
    have c2 : ∀ k, (wr.drewN k).cell? ⟨g, 2, none⟩ = some (.int .i64 (j : Int)) := fun _ => (cell_row (w := wr) hI.out.1.row 2).trans hI.out.1.sk
    go_upto_region 3 with fail
    go_cut [65] from 35 to 72 (fun b wd => (∃ k, wd = wr.drewN k) ∧ ((b = .bool true ∧ Hid (j < A.size ∧ j < B.size ∧ byt A j = byt B j)) ∨ b = .bool false))
    case first =>
      by_cases hA : j < A.size
      · have q3 : (j : Int) < (A.size : Int) := by omega
        by_cases hB : j < B.size
        · have q4 : (j : Int) < (B.size : Int) := by omega
          have ra : ∀ w, (Instr.index 9 (.string A) (.int .i64 (j : Int))).run Yba.prog w = .ok (.int .u8 (byt A j : Nat)) w := fun w => run_idx A _ j rfl hA w
          have rb : ∀ w, (Instr.index 9 (.string B) (.int .i64 (j : Int))).run Yba.prog w = .ok (.int .u8 (byt B j : Nat)) w := fun w => run_idx B _ j rfl hB w
          have Hab : Hid (j < A.size ∧ j < B.size) := ⟨hA, hB⟩
          obtain ⟨a, ea⟩ : ∃ a, byt A j = a := ⟨_, rfl⟩
          obtain ⟨b, eb⟩ : ∃ b, byt B j = b := ⟨_, rfl⟩
          rw [ea] at ra
          rw [eb] at rb
          by_cases hab : a = b
          · have Hq : Hid (j < A.size ∧ j < B.size ∧ byt A j = byt B j) := ⟨hA, hB, by rw [ea, eb, hab]⟩
            subst hab
            clear ea eb hA hB
            go_quiet (fail)
            go_wp2
            go_meet
            case rel => exact ⟨⟨_, rfl⟩, Or.inl ⟨rfl, Hq⟩⟩
          · have hne : ((a : Int) == (b : Int)) = false := beq_eq_false_iff_ne.2 fun h => hab (Int.ofNat.inj h)
            clear ea eb hA hB hab
            go_quiet (fail)
            go_wp2
            go_meet
            case rel => exact ⟨⟨_, rfl⟩, Or.inr rfl⟩
        · have q4 : decide (j < B.size) = false := decide_eq_false hB
          go_quiet (fail)
          go_wp2
          go_meet
          case rel => exact ⟨⟨_, rfl⟩, Or.inr rfl⟩
      · have q3 : decide (j < A.size) = false := decide_eq_false hA
        go_quiet (fail)
        go_wp2
        go_meet
        case rel => exact ⟨⟨_, rfl⟩, Or.inr rfl⟩
    case rest =>
      obtain ⟨⟨k, rfl⟩, ⟨rfl, hq⟩ | rfl⟩ := hcut
      · have f2 : (wr.drewN k).frozen? ⟨g, 2, none⟩ = false := free_row (w := wr) hI.out.1.row 2
        have hw3 : IntKind.i64.wrap ((j : Int) + 1) = ((j + 1 : Nat) : Int) := by rw [wrap_id _ (by omega) (by have := hq.out; have := HE.out; omega)]; omega
        have Hn : Hid (St w g ib n cap ks (j + 1) False 0 ((wr.drewN k).setCell ⟨g, 2, none⟩ (.int .i64 ((j : Int) + 1))) (cur'.setIfInBounds 2 (.int .i64 ((j : Int) + 1)))) := by
          have := hI.out.1.setSkip k (j + 1)
          push_cast at this
          exact this
        go_wp2_with fail
        go_roundg (A.size + 1 - (j + 1))
        case measure => have := hg'.out; have := hq.out; omega
        case rel =>
          refine ⟨j + 1, cur'.setIfInBounds 2 (.int .i64 ((j : Int) + 1)), rfl, ⟨Hn.out, by have := hq.out; omega, by have := hq.out; omega, fun t ht => ?_⟩⟩
          · by_cases htj : t = j
            · rw [htj]; exact hq.out.2.2
            · exact hI.out.2.2.2 t (by omega)
      · clear hg'
        have hcp : ∀ k, (Builtin.copy_ #[68, 9] 3 #[.slice (some ⟨g, 4, none⟩) 24 24, .string (A.extract 0 j)]).run Yba.prog (wr.drewN k) = .ok (goInt (min j 24)) ((wr.drewN k).setCells g 4 (preVals A j)) := fun k => run_cp (wr.drewN k) A j g hI.out.2.1 cur' hI.out.1.row hI.out.1.size
        have qj : (j : Int) ≤ (A.size : Int) := by have := hI.out.2.1; omega
        have Hp : Hid (∀ k, ∃ cur2, St w g ib n cap ks j True 0 ((wr.drewN k).setCells g 4 (preVals A j)) cur2) := fun k => by rw [← HE.out.2.1]; exact hI.out.1.setPre k
        go_upto_region 5 with fail
        go_cut [] (fun wd => ∃ cur2, Hid (St w g ib n cap ks j True 0 wd cur2))
        case first =>
          go_region_with (fail)
          all_goals go_wp2
          all_goals go_meet
          all_goals exact ⟨_, (Hp.out _).choose_spec⟩
        case rest =>
          have HP : Hid ((∀ i, i < n → (ks 0).toList.take j <+: (ks i).toList) ∧ (∀ i, i < n → j ≤ (ks i).size)) := by
            have h1 : ∀ i, i < n → (ks 0).toList.take j <+: (ks i).toList := pre_all n l ks j hn HE.out.1 HR.out.sorted (by rw [HE.out.2.1]; exact hI.out.2.1) (by rw [HE.out.2.2.1]; exact hI.out.2.2.1) (by rw [HE.out.2.1, HE.out.2.2.1]; exact hI.out.2.2.2)
            refine ⟨h1, fun i hi => ?_⟩
            have := (h1 i hi).length_le
            have e1 := size_len (ks 0)
            have e2 := size_len (ks i)
            have := hI.out.2.1
            rw [← HE.out.2.1] at this
            rw [List.length_take] at *
            omega
          clear c2 hcp qj Hp hI HE
          clear cur' wr
          obtain ⟨cur2, hI⟩ := hcut
          have c0 : wc.cell? ⟨g, 0, none⟩ = some (.slice (some ⟨ib, 0, none⟩) n cap) := (cell_row hI.out.row 0).trans hI.out.items
          go_wp2_with fail
          go_loopg [4, 5, 89] n (fun gg t _ x wr => ∃ (m : Nat) (b : Bool) (cur3 : Array Value), m ≤ n ∧ gg = n - m ∧ t = .bool b ∧ x = .int .i64 (m : Int) ∧ Hid (St w g ib n cap ks j True m wr cur3))
          case atStart => exact ⟨0, false, cur2, by omega, by omega, rfl, rfl, hI⟩
          case round =>
            clear hI c0
            clear cur2 wc
            obtain ⟨m, b, cur3, hm, hg, rfl, rfl, hI⟩ := hrel
            have hg' : Hid (gk = n - m) := hg
            clear hg
            by_cases hmn : m < n
            · have q1 : (m : Int) < (n : Int) := by omega
              have q2 : (m : Int) < 127 := by omega
              have c0 : ∀ k, (wr.drewN k).cell? ⟨g, 0, none⟩ = some (.slice (some ⟨ib, 0, none⟩) n cap) := fun _ => (cell_row (w := wr) hI.out.row 0).trans hI.out.items
              have c2 : ∀ k, (wr.drewN k).cell? ⟨g, 2, none⟩ = some (.int .i64 (j : Int)) := fun _ => (cell_row (w := wr) hI.out.row 2).trans hI.out.sk
              have ck : ∀ k, (wr.drewN k).cell? ⟨ib, m * 2, none⟩ = some (.string (ks m)) := fun _ => (hI.out.below.cell (p := ⟨ib, m * 2, none⟩) HR.out.far).trans (HR.out.key m hmn)
              obtain ⟨u2, hu2⟩ : ∃ u2, cur3[28 + m]? = some u2 := ⟨_, Array.getElem?_eq_getElem (by rw [hI.out.size]; omega)⟩
              have ch : ∀ k, (wr.drewN k).cell? ⟨g, 28 + m, none⟩ = some u2 := fun _ => (cell_row (w := wr) hI.out.row _).trans hu2
              have fh : ∀ k, (wr.drewN k).frozen? ⟨g, 28 + m, none⟩ = false := fun _ => free_row (w := wr) hI.out.row _
              have Hh : Hid (∀ w, Calls Yba.prog 28 #[.string (ks m), .int .i64 (j : Int)] w fun e w' => e = .returned (.int .u64 (headN (ks m) j : Nat)) ∧ ∃ k, w' = w.drewN k) := fun w => head_any (ks m) j w (HP.out.2 m hmn) (by have := HR.out.mx m hmn; omega)
              have Hs : Hid (∀ k, St w g ib n cap ks j True (m + 1) ((wr.drewN k).setCell ⟨g, 28 + m, none⟩ (.int .u64 (headN (ks m) j : Nat))) (cur3.setIfInBounds (28 + m) (.int .u64 (headN (ks m) j : Nat)))) := fun k => hI.out.setHead k (by omega)
              obtain ⟨x, ex⟩ : ∃ x, headN (ks m) j = x := ⟨_, rfl⟩
              rw [ex] at Hh Hs
              obtain ⟨K, eK⟩ : ∃ K, ks m = K := ⟨_, rfl⟩
              rw [eK] at ck Hh
              have Hm : Hid (m < n) := hmn
              clear hu2 ex eK hmn hI
              have c0' : wr.drew.cell? ⟨g, 0, none⟩ = some (.slice (some ⟨ib, 0, none⟩) n cap) := c0 0
              have c2' : wr.drew.cell? ⟨g, 2, none⟩ = some (.int .i64 (j : Int)) := c2 0
              have ck' : wr.drew.cell? ⟨ib, m * 2, none⟩ = some (.string K) := ck 0
              have ch' : wr.drew.cell? ⟨g, 28 + m, none⟩ = some u2 := ch 0
              have fh' : wr.drew.frozen? ⟨g, 28 + m, none⟩ = false := fh 0
              go_upto_region 10 with fail
              go_cut [] from 90 to 131 (fun wd => ∃ cur4, Hid (St w g ib n cap ks j True (m + 1) wd cur4))
              case first =>
                go_region_with ((go_at_call 28; refine (Hh.out _).mono ?_; rintro e w' ⟨rfl, k, rfl⟩))
                all_goals go_wp2
                all_goals go_meet
                all_goals exact ⟨_, Hs.out _⟩
              case rest =>
                clear c0 c2 ck ch fh c0' c2' ck' ch' fh' Hh Hs
                clear cur3 wr u2 x K
                obtain ⟨cur4, hI⟩ := hcut
                have hx : ∀ k, (wc.drewN k).cell? ⟨g, 28 + m, none⟩ = some (.int .u64 (headN (ks m) j : Nat)) := fun _ => (cell_row (w := wc) hI.out.row _).trans (hI.out.hd m (by omega))
                obtain ⟨x, ex⟩ : ∃ x, headN (ks m) j = x := ⟨_, rfl⟩
                rw [ex] at hx
                clear ex
                have hw3 : IntKind.i64.wrap ((m : Int) + 1) = ((m + 1 : Nat) : Int) := by rw [wrap_id _ (by omega) (by omega)]; omega
                go_upto_region 11 with fail
                have Hn : Hid (∀ k, St w g ib n cap ks j True (m + 1) (wc.drewN k) cur4) := fun k => hI.out.drewN k
                cases b with
                | true =>
                  go_quiet (fail)
                  go_wp2_with fail
                  go_roundg (n - (m + 1))
                  case measure => have := hg'.out; have := Hm.out; omega
                  case rel => exact ⟨m + 1, _, cur4, Hm.out, rfl, rfl, by go_num, Hn.out _⟩
                | false =>
                  rcases Nat.eq_zero_or_pos m with h0 | h0
                  · subst h0
                    go_quiet (fail)
                    go_wp2_with fail
                    go_roundg (n - 1)
                    case measure => have := hg'.out; have := Hm.out; omega
                    case rel => exact ⟨1, _, cur4, Hm.out, rfl, rfl, rfl, Hn.out _⟩
                  · have hw1 : IntKind.i64.wrap ((m : Int) - 1) = ((m - 1 : Nat) : Int) := by rw [wrap_id _ (by omega) (by omega)]; omega
                    have q5 : ((m - 1 : Nat) : Int) < 127 := by omega
                    have q6 : (0 : Int) < (m : Int) := by omega
                    have hy : ∀ k, (wc.drewN k).cell? ⟨g, 28 + (m - 1), none⟩ = some (.int .u64 (headN (ks (m - 1)) j : Nat)) := fun _ => (cell_row (w := wc) hI.out.row _).trans (hI.out.hd (m - 1) (by omega))
                    obtain ⟨y, ey⟩ : ∃ y, headN (ks (m - 1)) j = y := ⟨_, rfl⟩
                    rw [ey] at hy
                    obtain ⟨m1, em⟩ : ∃ m1, m - 1 = m1 := ⟨_, rfl⟩
                    rw [em] at hw1 q5 hy
                    clear ey em
                    go_quiet (fail)
                    go_wp2_with fail
                    go_roundg (n - (m + 1))
                    case measure => have := hg'.out; have := Hm.out; omega
                    case rel => exact ⟨m + 1, _, cur4, Hm.out, rfl, rfl, by go_num, Hn.out _⟩
            · obtain rfl : m = n := by omega
              have q1 : ¬ (m : Int) < (m : Int) := by omega
              cases b with
              | false =>
                have c3 : wr.cell? ⟨g, 3, none⟩ = some (.pointer none) := (cell_row hI.out.row 3).trans hI.out.h3
                have f3 : wr.frozen? ⟨g, 3, none⟩ = false := free_row hI.out.row 3
                have Hf : Hid (Below g w (wr.setCell ⟨g, 3, none⟩ (.pointer none)) ∧ Good (wr.setCell ⟨g, 3, none⟩ (.pointer none)) g (some ⟨ib, 0, none⟩) m cap ks j) := by
                  have hb : Below g w (wr.setCell ⟨g, 3, none⟩ (.pointer none)) := hI.out.below.setCell (p := ⟨g, 3, none⟩) (Nat.le_refl g) _
                  exact ⟨hb, good_of HR.out hI.out HP.out.1 HP.out.2 hb ⟨_, row_set hI.out.row _⟩⟩
                clear HP HR hI
                go_wp2_with fail
                go_end0
                exact ⟨rfl, Hf.out.1, j, Hf.out.2⟩
              | true =>
                go_wp2_with fail
                refine (keep_any g ib m cap j ks _ cur3 wr (hI.out.keys HR.out HP.out.2) hI.out.h3).mono ?_
                rintro e w' ⟨rfl, hb, hr⟩
                have Hf : Hid (Below g w w' ∧ Good w' g (some ⟨ib, 0, none⟩) m cap ks j) := by
                  have hb' : Below g w w' := hI.out.below.trans hb
                  exact ⟨hb', good_of HR.out hI.out HP.out.1 HP.out.2 hb' hr⟩
                clear HP HR hI hb hr
                go_wp2_with fail
                go_end0
                exact ⟨rfl, Hf.out.1, j, Hf.out.2⟩
end Go.Proofs.Ybulkbqxk
