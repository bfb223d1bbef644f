import Derived.Test.YbulkbqxkKey
import Derived.OwnWalk
import Derived.Maps.AppendAt
/-
  THE WALK OF 'LawS3377BTied'.
-/
namespace Go.Proofs.Ybulkbqxk
open Go.RowKit Go.Sort

theorem owns_below {w w' : World} {base : Nat} {t : TypeId} {v : Value} {n : Nat} {cs : List Value} (h : w.ownsRow base t 1 v n cs) (hb : Below w.heap.size w w') : w'.ownsRow base t 1 v n cs := by
  refine ⟨h.1, ?_⟩
  rcases h.2 with h0 | ⟨g, cap, cur, rfl, h1, h2, h3⟩
  · exact Or.inl h0
  · exact Or.inr ⟨g, cap, cur, rfl, h1, (hb.block g (lt_row h2)).trans h2, h3⟩

theorem info9 : (Yba.prog.info? 9).map (fun i => (i.zero, i.size, i.bytes)) = some (some (.string ⟨#[]⟩), 1, 16) := by kernel_rfl
def emp (n : Nat) : Array Value := madeCells (Value.string ⟨#[]⟩).cells n
theorem run_mks (w : World) (n : Nat) (hn : n ≤ 127) :
    (Instr.makeSlice 22 (.int .i64 0) (.int .i64 (n : Int))).run Yba.prog w = .ok (.slice (some ⟨w.heap.size, 0, none⟩) 0 n) (w.alloc (.cells (emp n) 9)) := by
  obtain ⟨i, hi, hz, hs, hb⟩ := info_parts info9
  rw [run_make w 22 9 i _ Yba.underlying22 hi hz .i64 .i64 (0 : Int) (n : Int) (by omega) (by omega) (by rw [hb]; omega) (by omega), hs]
  simp [emp]
theorem emp_size (n : Nat) : (emp n).size = n := by simp [emp, madeCells]
theorem owns_emp (w : World) (n : Nat) (hn : n ≤ 127) : (w.alloc (.cells (emp n) 9)).ownsRow w.heap.size 9 1 (.slice (some ⟨w.heap.size, 0, none⟩) 0 n) 0 [] := by
  refine ⟨by simp, Or.inr ⟨w.heap.size, n, emp n, rfl, Nat.le_refl _, heap_alloc_new w _, by omega, by unfold maxLen; omega, by simp [emp_size], by simp⟩⟩

theorem Good.below {w w' : World} {g : Nat} {ia : Option Addr} {n cap : Nat} {ks : Nat → ByteArray} {skip : Nat} (G : Good w g ia n cap ks skip) (hb : Below w.heap.size w w') : Good w' g ia n cap ks skip := by
  have c : ∀ {a : Addr} {v : Value}, w.cell? a = some v → w'.cell? a = some v := fun {a v} h => (hb.cell (p := a) (World.block_lt_of_cell? w _ h)).trans h
  exact ⟨⟨c G.node.items, c G.node.sk, fun j hj => by obtain ⟨ib, e, h⟩ := G.node.key j hj; exact ⟨ib, e, c h⟩, fun j h1 h2 => c (G.node.pre j h1 h2), fun j hj => c (G.node.hd j hj), G.node.le, G.node.sm, G.node.mx⟩, G.sorted, G.pre⟩

set_option maxHeartbeats 4000000 in
set_option maxRecDepth 100000 in
theorem tied_law (p : ByteArray) (nn q : Int) (N : Nat) (extra : Bool) (w : World) (hp : p.size ≤ 1024) (h0 : 0 ≤ nn) (h1 : nn < 256) (h2 : 0 ≤ q) (h3 : q < 65536) (hN : nn % 128 = (N : Int)) (hN2 : N ≤ 127) :
    Calls Yba.prog 4 #[.string p, .int .u8 nn, .int .u16 q, .bool extra] w fun e w' => e = .returned (.bool true) ∧ Below w.heap.size w w' := by
  have q0 : ¬ (1024 : Int) < (p.size : Int) := by omega
  have hmk := fun w => run_mks w N hN2
  have HO : Hid ((w.alloc (.cells (emp N) 9)).ownsRow w.heap.size 9 1 (.slice (some ⟨w.heap.size, 0, none⟩) 0 N) 0 [] ∧ Below w.heap.size w (w.alloc (.cells (emp N) 9))) := ⟨owns_emp w N hN2, (Below.refl _ _).alloc (Nat.le_refl _) _⟩
  obtain ⟨i0, hi0, hz0, hz1, hz2⟩ := info_parts info9
  go_enter Yba.func4, Yba.ntmps4
  go_wp2_with fail
  go_loopg [10, 11] N (fun gg v x wr => ∃ (m : Nat) (xs : List ByteArray), m ≤ N ∧ xs.length = m ∧ gg = N - m ∧ x = .int .i64 (m : Int) ∧ wr.ownsRow w.heap.size 9 1 v xs.length (xs.map Value.string) ∧ Hid (∀ y ∈ xs, y.size ≤ 1035) ∧ Below w.heap.size w wr)
  case atStart => exact ⟨0, [], by omega, rfl, by omega, rfl, HO.out.1, fun y hy => (by cases hy), HO.out.2⟩
  case round =>
    clear HO hmk
    obtain ⟨m, xs, hm, hxm, hg, rfl, hrow, hsz, hbe⟩ := hrel
    have hg' : Hid (gk = N - m) := hg
    clear hg
    by_cases hlt : m < N
    · have q1 : (m : Int) < (N : Int) := by omega
      have hw3 : IntKind.i64.wrap ((m : Int) + 1) = ((m + 1 : Nat) : Int) := by rw [wrap_id _ (by omega) (by omega)]; omega
      go_wp2_with fail
      refine (key_any p _ _ _ wr hp).mono ?_
      rintro e w4 ⟨⟨s, rfl, hs⟩, hb4⟩
      have hrow4 := owns_below hrow hb4
      have hbe4 : Below w.heap.size w w4 := hbe.trans (hb4.mono hbe.size)
      have Hs : Hid (s.size ≤ 1035) := by show s.size ≤ 1035; omega
      have Hm : Hid (m < N) := hlt
      clear hrow hbe hb4 hs hlt
      go_wp2_with (at_builtin; refine wpList_append_own _ rfl _ _ 22 rfl w.heap.size 9 i0 (.string ⟨#[]⟩) 1 16 Yba.underlying22 hi0 hz0 hz1 hz2 rfl (by decide) _ _ _ rfl (hrow4.alloc _) ⟨w4.heap.size, 0, none⟩ 1 1 [.string s] rfl rfl (cell_one_new _ _ _) (by simp [Value.oneCell']) (by unfold maxLen; omega) (by omega) (by have := hbe4.size; simp; omega) ?_; intro v' w5 hown5 hgrow5 _)
      go_roundg (N - (m + 1))
      case measure => have := hg'.out; have := Hm.out; omega
      case rel =>
        refine ⟨m + 1, xs ++ [s], Hm.out, by simp [hxm], rfl, by go_num, by simpa using hown5, fun y hy => ?_, ?_⟩
        · rcases List.mem_append.1 hy with hy | hy
          · exact hsz.out y hy
          · obtain rfl : y = s := by simpa using hy
            exact Hs.out
        · refine (hbe4.alloc hbe4.size _).grown hgrow5 (by have := hbe4.size; simp; omega) (fun k e => ?_)
          exact (hrow4.lt k e).1
    · obtain rfl : m = N := by omega
      have q1 : ¬ (m : Int) < (m : Int) := by omega
      have HBd : Hid (Calls Yba.prog 6 #[u10] wr fun e w' => ∃ g ia m cap ks skip, e = .returned (.pointer (some ⟨g, 0, none⟩)) ∧ Good w' g ia m cap ks skip ∧ Below wr.heap.size wr w') := by
        rcases hrow.2 with ⟨e0, _⟩ | ⟨g, cap, cur, e0, hb1, hb2, hb3, hb4, hb5, hb6⟩
        · rw [e0]
          exact build_nil 0 0 wr
        · rw [e0]
          refine build_walk _ wr (xs.map (·.data.toList)) xs.length ((clone_c g 0 xs.length cap xs wr (Nat.le_refl _) (by omega) (fun j hj => ?_)).mono fun e w' ⟨v', he, hown, hnn, hbel⟩ => ⟨v', he, by rw [Lib.map_encStr]; simpa using hown, hnn, hbel⟩) (by omega) ?_
          · have ht := congrArg (fun l => l[j]?) hb6
            simp only [Nat.mul_one, List.getElem?_take, hj, if_true, Array.getElem?_toList, List.getElem?_map] at ht
            rw [cell_row hb2, Nat.zero_add, ht]
            simp [hj]
          · intro s hs'
            obtain ⟨z, hzm, rfl⟩ := List.mem_map.1 hs'
            have h2 := hsz.out z hzm
            have h3 : z.data.toList.length = z.size := by simp
            omega
      have Hbe : Hid (Below w.heap.size w wr) := hbe
      clear hrow hsz hbe hxm
      go_wp2_with fail
      refine HBd.out.mono ?_
      rintro e w6 ⟨g, ia, M, cp, ks, skip, rfl, hG6, hb6⟩
      have HG6 : Hid (Good w6 g ia M cp ks skip ∧ Below w.heap.size w w6) := ⟨hG6, Hbe.out.trans (hb6.mono Hbe.out.size)⟩
      clear hG6 hb6 HBd Hbe
      go_wp2_with fail
      refine (key_any p _ _ _ w6 hp).mono ?_
      rintro e w1 ⟨⟨qk, rfl, hqk⟩, hb7⟩
      have HG : Hid (Good w1 g ia M cp ks skip ∧ Below w.heap.size w w1) := ⟨HG6.out.1.below hb7, HG6.out.2.trans (hb7.mono HG6.out.2.size)⟩
      have hle := HG.out.1.node.le
      clear HG6 hb7
      go_wp2_with fail
      refine (check_any HG.out.1 qk (by omega)).mono ?_
      rintro e w' ⟨rfl, k, rfl⟩
      go_wp2_with fail
      refine (check_any (HG.out.1.drewN k) p (by omega)).mono ?_
      rintro e w' ⟨rfl, k2, rfl⟩
      go_wp2_with fail
      go_loopg [14, 15, 16] M (fun gg x _ _ wr => ∃ j k : Nat, j ≤ M ∧ gg = M - j ∧ x = .int .i64 (j : Int) ∧ wr = w1.drewN k)
      case atStart => exact ⟨0, k + k2, by omega, by omega, rfl, by first | rfl | (rw [World.drewN_drewN])⟩
      case round =>
        clear k k2 hqk
        obtain ⟨j, k, hj, hg, rfl, rfl⟩ := hrel
        have hg' : Hid (gk = M - j) := hg
        clear hg
        have c0 : (w1.drewN k).cell? ⟨g, 0, none⟩ = some (.slice ia M cp) := HG.out.1.node.items
        by_cases hjm : j < M
        · obtain ⟨ib, rfl, hcK⟩ := HG.out.1.node.key j hjm
          have ck : (w1.drewN k).cell? ⟨ib, j * 2, none⟩ = some (.string (ks j)) := hcK
          have q2 : (j : Int) < (M : Int) := by omega
          have Hj : Hid (j < M) := hjm
          have hw3 : IntKind.i64.wrap ((j : Int) + 1) = ((j + 1 : Nat) : Int) := by rw [wrap_id _ (by omega) (by omega)]; omega
          have Hs : Hid (Calls Yba.prog 8 #[.pointer (some ⟨g, 0, none⟩), .string (ks j)] (w1.drewN k) fun e w' => e = .returned (.tuple #[.int .i64 (j : Int), .bool true]) ∧ ∃ k', w' = (w1.drewN k).drewN k') := by
            have h := search_any (HG.out.1.drewN k) (ks j) (by have := HG.out.1.node.mx j hjm; omega) j (by omega) (fun i hi => ⟨fun hlt => by
              rcases Nat.lt_trichotomy i j with h | h | h
              · exact h
              · rw [h] at hlt; exact absurd hlt (str_irrefl _)
              · exact absurd (HG.out.1.sorted j i h hi) (str_asymm hlt), fun hij => HG.out.1.sorted i j hij hjm⟩)
            have ef : found M j ks (ks j) = true := by unfold found; rw [decide_eq_true hjm, decide_eq_true rfl]; rfl
            rw [ef] at h
            exact h
          clear hcK hjm
          go_wp2_with fail
          refine Hs.out.mono ?_
          rintro e w' ⟨rfl, k', rfl⟩
          go_wp2_with fail
          go_roundg (M - (j + 1))
          case measure => have := hg'.out; have := Hj.out; omega
          case rel => exact ⟨j + 1, _, Hj.out, rfl, by go_num, rfl⟩
        · obtain rfl : j = M := by omega
          have q2 : ¬ (j : Int) < (j : Int) := by omega
          go_wp2_with fail
          go_ret
          exact ⟨rfl, below_drewN HG.out.2 k⟩
end Go.Proofs.Ybulkbqxk
