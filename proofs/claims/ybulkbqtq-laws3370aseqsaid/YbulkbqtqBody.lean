import Derived.Test.YbulkbqtqRep
import Derived.Test.YbulkbqtqBridge
/-
  'r.committed = append(r.committed, c)' IN THE BODY OF THE RANGE OVER slices.Backward: one region that draws its order, walked in a round's frame.
-/
namespace Go.Proofs.Ybulkbqtq
open Go.RowKit

/-- the operations of that region; p: the place in the text that each bears -/
def ops9 (p : String) : Array Oper := #[{ dst := some 75, op := Op.load 48 (Operand.tmp 5), type := 48, pos := p, after := #[], guard := none }, { dst := some 76, op := Op.load 48 (Operand.tmp 5), type := 48, pos := p, after := #[], guard := none }, { dst := some 77, op := Op.nilCheck (Operand.tmp 76), type := 0, pos := p, after := #[{ on := 1, ground := Ground.data }], guard := none }, { dst := some 78, op := Op.fieldAddr 61 (Operand.tmp 77) 5, type := 0, pos := p, after := #[{ on := 2, ground := Ground.data }], guard := none }, { dst := some 79, op := Op.load 24 (Operand.tmp 78), type := 24, pos := p, after := #[{ on := 3, ground := Ground.data }], guard := none }, { dst := some 80, op := Op.move (Operand.tmp 13), type := 27, pos := p, after := #[], guard := none }, { dst := some 81, op := Op.buildSlice 24 1 #[(0, Operand.tmp 80)], type := 24, pos := p, after := #[{ on := 5, ground := Ground.data }], guard := none }, { dst := some 82, op := Op.call { callee := Callee.builtin Builtin.append, args := #[Operand.tmp 79, Operand.tmp 81], argTypes := #[24, 24] }, type := 24, pos := p, after := #[{ on := 4, ground := Ground.data }, { on := 6, ground := Ground.data }], guard := none }, { dst := some 83, op := Op.nilCheck (Operand.tmp 75), type := 0, pos := p, after := #[{ on := 0, ground := Ground.data }, { on := 0, ground := Ground.phase }, { on := 1, ground := Ground.phase }, { on := 2, ground := Ground.phase }, { on := 3, ground := Ground.phase }, { on := 4, ground := Ground.phase }, { on := 5, ground := Ground.phase }, { on := 6, ground := Ground.phase }, { on := 7, ground := Ground.phase }], guard := none }, { dst := some 84, op := Op.fieldAddr 61 (Operand.tmp 83) 5, type := 0, pos := p, after := #[{ on := 8, ground := Ground.data }, { on := 0, ground := Ground.phase }, { on := 1, ground := Ground.phase }, { on := 2, ground := Ground.phase }, { on := 3, ground := Ground.phase }, { on := 4, ground := Ground.phase }, { on := 5, ground := Ground.phase }, { on := 6, ground := Ground.phase }, { on := 7, ground := Ground.phase }], guard := none }, { dst := none, op := Op.store 24 (Operand.tmp 84) (Operand.tmp 82), type := 0, pos := p, after := #[{ on := 9, ground := Ground.data }, { on := 7, ground := Ground.data }, { on := 7, ground := Ground.chain }, { on := 0, ground := Ground.phase }, { on := 1, ground := Ground.phase }, { on := 2, ground := Ground.phase }, { on := 3, ground := Ground.phase }, { on := 4, ground := Ground.phase }, { on := 5, ground := Ground.phase }, { on := 6, ground := Ground.phase }, { on := 7, ground := Ground.phase }], guard := none }]

theorem ev_same (a : Act) (d : Nat) (v : Value) (h : d < a.tmps.size) : (a.put (some d) v).eval (.tmp d) = v := by
  simp [Act.put, Act.eval, h]
theorem ev_other (a : Act) (d t : Nat) (v : Value) (h : d ≠ t) : (a.put (some d) v).eval (.tmp t) = a.eval (.tmp t) := by
  simp [Act.put, Act.eval, h]
theorem put_size (a : Act) (d : Nat) (v : Value) : (a.put (some d) v).tmps.size = a.tmps.size := by simp [Act.put]

theorem no_defer9 (p : String) : ∀ (i : Nat) (o : Oper) c, (ops9 p)[i]? = some o → o.op ≠ .defer c := by
  intro i o c h e
  have hi : i < 11 := (Array.getElem?_eq_some_iff.1 h).1
  have : ∀ i, i < 11 → ∀ o, (ops9 p)[i]? = some o → ∀ c, o.op ≠ .defer c := by
    intro i hi o ho c
    match i, hi, ho with
    | 0, _, ho | 1, _, ho | 2, _, ho | 3, _, ho | 4, _, ho | 5, _, ho | 6, _, ho | 7, _, ho | 8, _, ho | 9, _, ho | 10, _, ho => cases ho; simp [ops9]
  exact this i hi o h c e

theorem mixed : Yba.prog.follows .mixedOrders = true := by kernel_rfl

/-- the run of a load of one cell -/
theorem run_ld (w : World) (b o : Nat) (v : Value) (h : w.cell? ⟨b, o, none⟩ = some v) : (Instr.loadAt 48 (.pointer (some ⟨b, o, none⟩))).run Yba.prog w = .ok v w := by
  simp [go_sem, h]
theorem run_ld24 (w : World) (b o : Nat) (v : Value) (h : w.cell? ⟨b, o, none⟩ = some v) : (Instr.loadAt 24 (.pointer (some ⟨b, o, none⟩))).run Yba.prog w = .ok v w := by
  simp [go_sem, h]
theorem run_fa (w : World) (b : Nat) : (Instr.fieldAt 61 (pv b) 5).run Yba.prog w = .ok (.pointer (some ⟨b, 14, none⟩)) w := by
  simp [go_sem]
theorem run_bs (w : World) (x : Nat) : (Instr.buildSlice 24 1 #[(0, pv x)]).run Yba.prog w = .ok (.slice (some ⟨w.heap.size, 0, none⟩) 1 1) (w.alloc (.cells #[pv x] 27)) := by
  kernel_rfl
theorem run_st (w : World) (b : Nat) (u : Value) (g n c : Nat) (h : w.cell? ⟨b, 14, none⟩ = some u) (hf : w.frozen? ⟨b, 14, none⟩ = false) :
    (Instr.storeAt 24 (.pointer (some ⟨b, 14, none⟩)) (.slice (some ⟨g, 0, none⟩) n c)).run Yba.prog w = .ok () (w.setCell ⟨b, 14, none⟩ (.slice (some ⟨g, 0, none⟩) n c)) := by
  simp [go_sem, h, hf]

/-- the part behind the two loads and the making of the one-cell row -/
theorem tail9 (p : String) {Q : Exit → Act → World → Prop} (hpan : ∀ c a w, ¬ Q (.panic c) a w) (bxr rb x : Nat) (v : Value) (cs : List Nat) (a : Act) (w : World) (ha : a.tmps.size = 103) (ad : Nat) (hl : cs.length ≤ 5000)
    (h75 : a.eval (.tmp 75) = pv rb) (h79 : a.eval (.tmp 79) = v) (h81 : a.eval (.tmp 81) = .slice (some ⟨ad, 0, none⟩) 1 1)
    (cbx : Array Value) (hbx : w.heap[bxr]? = some (.cells cbx 48)) (hb0 : cbx[0]? = some (pv rb)) (cr : Array Value) (hr : w.heap[rb]? = some (.cells cr 61)) (hr0 : cr[14]? = some v)
    (hrow : Row w v cs) (had : w.heap[ad]? = some (.cells #[pv x] 27))
    (hK : ∀ a' g cap w1, Row w1 (.slice (some ⟨g, 0, none⟩) (cs.length + 1) cap) (cs ++ [x]) → Keep v cs.length w w1 → (v.ownBlock = some g ∨ g = w.heap.size) →
      Q .normal a' (w1.setCell ⟨rb, 14, none⟩ (.slice (some ⟨g, 0, none⟩) (cs.length + 1) cap))) :
    wpAnyH Yba.prog .any (ops9 p) Q (fun w' => w'.cell? ⟨bxr, 0, none⟩ = some (pv rb)) 4 #[true, true, true, true, true, true, true, false, false, false, false] a w := by
  have far : ∀ (b : Nat) (c : Array Value) (t : Nat), w.heap[b]? = some (.cells c t) → t ≠ 27 → v.ownBlock ≠ some b := by
    intro b c t hb ht e
    obtain ⟨cur, hc⟩ := hrow.lt b e
    rw [hb] at hc
    cases hc
    exact ht rfl
  refine wpAnyH_all (rs := [7]) (by kernel_rfl) (by simp) ?_
  intro i hi
  obtain rfl : i = 7 := by simpa using hi
  obtain ⟨g, cap, w1, hrun, h2, h3, h4⟩ := run_app w v cs hrow ad x had hl
  have hbx1 : w1.heap[bxr]? = some (.cells cbx 48) := (h3.far _ (lt_of_heap hbx) (far _ _ _ hbx (by decide))).trans hbx
  have hr1 : w1.heap[rb]? = some (.cells cr 61) := (h3.far _ (lt_of_heap hr) (far _ _ _ hr (by decide))).trans hr
  have s1 : w1.cell? ⟨bxr, 0, none⟩ = some (pv rb) := by rw [cell_of_heap hbx1]; exact hb0
  have key : (execOp a.eval ((ops9 p)[7]'(by simp [ops9]))).run Yba.prog w = .ok (.value (.slice (some ⟨g, 0, none⟩) (cs.length + 1) cap)) w1 := by
    show (execOp a.eval { dst := some 82, op := Op.call { callee := Callee.builtin Builtin.append, args := #[Operand.tmp 79, Operand.tmp 81], argTypes := #[24, 24] }, type := 24, pos := _, after := _, guard := none }).run Yba.prog w = _
    unfold execOp
    simp only [resolve, invoke, builtin, Sem.run_bind, Sem.run_pure, Result.andThen_ok, List.map_toArray, List.map_cons, List.map_nil, h79, h81, hrun]
  have hw : wpOp Yba.prog (ops9 p) Q 7 (fun a' w' => w'.cell? ⟨bxr, 0, none⟩ = some (pv rb) ∧ wpAnyH Yba.prog .any (ops9 p) Q (fun w' => w'.cell? ⟨bxr, 0, none⟩ = some (pv rb)) 3 ((#[true, true, true, true, true, true, true, false, false, false, false] : Array Bool).setIfInBounds 7 true) a' w') a w := by
    refine .inl ?_
    unfold Oper.wp
    rw [key]
    refine ⟨s1, ?_⟩
    obtain ⟨a7, ea7⟩ : ∃ a7, a.put (some 82) (.slice (some ⟨g, 0, none⟩) (cs.length + 1) cap) = a7 := ⟨_, rfl⟩
    show wpAnyH _ _ _ _ _ 3 _ (a.put (some 82) (.slice (some ⟨g, 0, none⟩) (cs.length + 1) cap)) w1
    rw [ea7]
    have z7 : a7.tmps.size = 103 := by rw [← ea7, put_size]; exact ha
    have e75 : a7.eval (.tmp 75) = pv rb := by rw [← ea7, ev_other _ _ _ _ (by decide)]; exact h75
    have e82 : a7.eval (.tmp 82) = .slice (some ⟨g, 0, none⟩) (cs.length + 1) cap := by rw [← ea7]; exact ev_same _ _ _ (by omega)
    refine wpAnyH_take (i := 8) (v := pv rb) rfl (by kernel_rfl) (by kernel_rfl) (by kernel_rfl) (fun c _ w h => absurd h (hpan c _ w)) (.inl ⟨rfl, fun w' _ => ?_⟩) s1 ?_
    · show (execOp a7.eval { dst := some 83, op := Op.nilCheck (Operand.tmp 75), type := 0, pos := _, after := _, guard := none }).run Yba.prog w' = _
      unfold execOp
      simp only [e75]
      rfl
    obtain ⟨a8, ea8⟩ : ∃ a8, a7.put (some 83) (pv rb) = a8 := ⟨_, rfl⟩
    show wpAnyH _ _ _ _ _ 2 _ (a7.put (some 83) (pv rb)) w1
    rw [ea8]
    have z8 : a8.tmps.size = 103 := by rw [← ea8, put_size]; exact z7
    have e83 : a8.eval (.tmp 83) = pv rb := by rw [← ea8]; exact ev_same _ _ _ (by omega)
    have e82' : a8.eval (.tmp 82) = .slice (some ⟨g, 0, none⟩) (cs.length + 1) cap := by rw [← ea8, ev_other _ _ _ _ (by decide)]; exact e82
    refine wpAnyH_take (i := 9) (v := .pointer (some ⟨rb, 14, none⟩)) rfl (by kernel_rfl) (by kernel_rfl) (by kernel_rfl) (fun c _ w h => absurd h (hpan c _ w)) (.inl ⟨rfl, fun w' _ => ?_⟩) s1 ?_
    · show (execOp a8.eval { dst := some 84, op := Op.fieldAddr 61 (Operand.tmp 83) 5, type := 0, pos := _, after := _, guard := none }).run Yba.prog w' = _
      unfold execOp
      simp only [e83, Sem.run_bind, run_fa, Result.andThen_ok, Sem.run_pure]
    obtain ⟨a9, ea9⟩ : ∃ a9, a8.put (some 84) (.pointer (some ⟨rb, 14, none⟩)) = a9 := ⟨_, rfl⟩
    show wpAnyH _ _ _ _ _ 1 _ (a8.put (some 84) (.pointer (some ⟨rb, 14, none⟩))) w1
    rw [ea9]
    have e84 : a9.eval (.tmp 84) = .pointer (some ⟨rb, 14, none⟩) := by rw [← ea9]; exact ev_same _ _ _ (by omega)
    have e82'' : a9.eval (.tmp 82) = .slice (some ⟨g, 0, none⟩) (cs.length + 1) cap := by rw [← ea9, ev_other _ _ _ _ (by decide)]; exact e82'
    refine wpAnyH_all (rs := [10]) (by kernel_rfl) (by simp) ?_
    intro i hi
    obtain rfl : i = 10 := by simpa using hi
    refine .inl ?_
    unfold Oper.wp
    have key2 : (execOp a9.eval ((ops9 p)[10]'(by simp [ops9]))).run Yba.prog w1 = .ok .skip (w1.setCell ⟨rb, 14, none⟩ (.slice (some ⟨g, 0, none⟩) (cs.length + 1) cap)) := by
      show (execOp a9.eval { dst := none, op := Op.store 24 (Operand.tmp 84) (Operand.tmp 82), type := 0, pos := _, after := _, guard := none }).run Yba.prog w1 = _
      unfold execOp
      simp only [e84, e82'', Sem.run_bind, run_st w1 rb v g _ cap (by rw [cell_of_heap hr1]; exact hr0) (free_of_heap hr1 _), Result.andThen_ok, Sem.run_pure]
    rw [key2]
    refine ⟨?_, ?_⟩
    · rw [World.cell?_setCell_other _ _ _ _ (fun e => by cases e)]
      exact s1
    · exact wpAnyH_done (by kernel_rfl) (hK _ g cap w1 h2 h3 h4) 0
  exact hw

theorem body9 {p : String} {Q : Exit → Act → World → Prop} (hpan : ∀ c a w, ¬ Q (.panic c) a w) (hout : ∀ a w, ¬ Q .outgrown a w) (l n : Nat) (bxr rb x : Nat) (v : Value) (cs : List Nat) (a : Act) (w : World) (ha : a.tmps.size = 103) (hl : cs.length ≤ 5000)
    (h5 : a.eval (.tmp 5) = pv bxr) (h13 : a.eval (.tmp 13) = pv x)
    (cbx : Array Value) (hbx : w.heap[bxr]? = some (.cells cbx 48)) (hb0 : cbx[0]? = some (pv rb)) (cr : Array Value) (hr : w.heap[rb]? = some (.cells cr 61)) (hr0 : cr[14]? = some v) (hrow : Row w v cs)
    (hK : ∀ a' g cap w1, Row w1 (.slice (some ⟨g, 0, none⟩) (cs.length + 1) cap) (cs ++ [x]) → Keep v cs.length (w.drew.alloc (.cells #[pv x] 27)) w1 → (v.ownBlock = some g ∨ g = w.heap.size + 1) →
      Q .normal a' (w1.setCell ⟨rb, 14, none⟩ (.slice (some ⟨g, 0, none⟩) (cs.length + 1) cap))) :
    (Code.region 9 (ops9 p) true).wpIn (Fence.wide.inRound l) n Yba.prog Q a w := by
  refine wpIn_round_held (S := fun w' => w'.cell? ⟨bxr, 0, none⟩ = some (pv rb)) mixed (no_defer9 p) hout ?_
  show wpAnyH _ _ _ _ _ 11 (Array.replicate 11 false) _ _
  have s0 : w.drew.cell? ⟨bxr, 0, none⟩ = some (pv rb) := by show w.cell? _ = _; rw [cell_of_heap hbx]; exact hb0
  -- number 0
  refine wpAnyH_take (i := 0) (v := pv rb) rfl (by kernel_rfl) (by kernel_rfl) (by kernel_rfl) (fun c _ w h => absurd h (hpan c _ w)) (.inl ⟨rfl, fun w' hw' => ?_⟩) s0 ?_
  · show (execOp a.eval { dst := some 75, op := Op.load 48 (Operand.tmp 5), type := 48, pos := _, after := _, guard := none }).run Yba.prog w' = _
    unfold execOp
    simp only [h5, Sem.run_bind, run_ld w' bxr 0 _ hw', Result.andThen_ok, Sem.run_pure]
  obtain ⟨a0, ea0⟩ : ∃ a0, a.put (some 75) (pv rb) = a0 := ⟨_, rfl⟩
  show wpAnyH _ _ _ _ _ 10 _ (a.put (some 75) (pv rb)) _
  rw [ea0]
  have z0 : a0.tmps.size = 103 := by rw [← ea0, put_size]; exact ha
  have p75 : a0.eval (.tmp 75) = pv rb := by rw [← ea0]; exact ev_same _ _ _ (by omega)
  have p5 : a0.eval (.tmp 5) = pv bxr := by rw [← ea0, ev_other _ _ _ _ (by decide)]; exact h5
  have p13 : a0.eval (.tmp 13) = pv x := by rw [← ea0, ev_other _ _ _ _ (by decide)]; exact h13
  -- number 1
  refine wpAnyH_take (i := 1) (v := pv rb) rfl (by kernel_rfl) (by kernel_rfl) (by kernel_rfl) (fun c _ w h => absurd h (hpan c _ w)) (.inl ⟨rfl, fun w' hw' => ?_⟩) s0 ?_
  · show (execOp a0.eval { dst := some 76, op := Op.load 48 (Operand.tmp 5), type := 48, pos := _, after := _, guard := none }).run Yba.prog w' = _
    unfold execOp
    simp only [p5, Sem.run_bind, run_ld w' bxr 0 _ hw', Result.andThen_ok, Sem.run_pure]
  obtain ⟨a1, ea1⟩ : ∃ a1, a0.put (some 76) (pv rb) = a1 := ⟨_, rfl⟩
  show wpAnyH _ _ _ _ _ 9 _ (a0.put (some 76) (pv rb)) _
  rw [ea1]
  have z1 : a1.tmps.size = 103 := by rw [← ea1, put_size]; exact z0
  have q75 : a1.eval (.tmp 75) = pv rb := by rw [← ea1, ev_other _ _ _ _ (by decide)]; exact p75
  have q76 : a1.eval (.tmp 76) = pv rb := by rw [← ea1]; exact ev_same _ _ _ (by omega)
  have q13 : a1.eval (.tmp 13) = pv x := by rw [← ea1, ev_other _ _ _ _ (by decide)]; exact p13
  -- number 2
  refine wpAnyH_take (i := 2) (v := pv rb) rfl (by kernel_rfl) (by kernel_rfl) (by kernel_rfl) (fun c _ w h => absurd h (hpan c _ w)) (.inl ⟨rfl, fun w' hw' => ?_⟩) s0 ?_
  · show (execOp a1.eval { dst := some 77, op := Op.nilCheck (Operand.tmp 76), type := 0, pos := _, after := _, guard := none }).run Yba.prog w' = _
    unfold execOp
    simp only [q76]
    rfl
  obtain ⟨a2, ea2⟩ : ∃ a2, a1.put (some 77) (pv rb) = a2 := ⟨_, rfl⟩
  show wpAnyH _ _ _ _ _ 8 _ (a1.put (some 77) (pv rb)) _
  rw [ea2]
  have z2 : a2.tmps.size = 103 := by rw [← ea2, put_size]; exact z1
  have r75 : a2.eval (.tmp 75) = pv rb := by rw [← ea2, ev_other _ _ _ _ (by decide)]; exact q75
  have r77 : a2.eval (.tmp 77) = pv rb := by rw [← ea2]; exact ev_same _ _ _ (by omega)
  have r13 : a2.eval (.tmp 13) = pv x := by rw [← ea2, ev_other _ _ _ _ (by decide)]; exact q13
  -- number 3
  refine wpAnyH_take (i := 3) (v := .pointer (some ⟨rb, 14, none⟩)) rfl (by kernel_rfl) (by kernel_rfl) (by kernel_rfl) (fun c _ w h => absurd h (hpan c _ w)) (.inl ⟨rfl, fun w' hw' => ?_⟩) s0 ?_
  · show (execOp a2.eval { dst := some 78, op := Op.fieldAddr 61 (Operand.tmp 77) 5, type := 0, pos := _, after := _, guard := none }).run Yba.prog w' = _
    unfold execOp
    simp only [r77, Sem.run_bind, run_fa, Result.andThen_ok, Sem.run_pure]
  obtain ⟨a3, ea3⟩ : ∃ a3, a2.put (some 78) (.pointer (some ⟨rb, 14, none⟩)) = a3 := ⟨_, rfl⟩
  show wpAnyH _ _ _ _ _ 7 _ (a2.put (some 78) (.pointer (some ⟨rb, 14, none⟩))) _
  rw [ea3]
  have z3 : a3.tmps.size = 103 := by rw [← ea3, put_size]; exact z2
  have s75 : a3.eval (.tmp 75) = pv rb := by rw [← ea3, ev_other _ _ _ _ (by decide)]; exact r75
  have s78 : a3.eval (.tmp 78) = .pointer (some ⟨rb, 14, none⟩) := by rw [← ea3]; exact ev_same _ _ _ (by omega)
  have s13 : a3.eval (.tmp 13) = pv x := by rw [← ea3, ev_other _ _ _ _ (by decide)]; exact r13
  -- number 5
  refine wpAnyH_take (i := 5) (v := pv x) rfl (by kernel_rfl) (by kernel_rfl) (by kernel_rfl) (fun c _ w h => absurd h (hpan c _ w)) (.inl ⟨rfl, fun w' hw' => ?_⟩) s0 ?_
  · show (execOp a3.eval { dst := some 80, op := Op.move (Operand.tmp 13), type := 27, pos := _, after := _, guard := none }).run Yba.prog w' = _
    unfold execOp
    simp only [s13, Sem.run_pure]
  obtain ⟨a4, ea4⟩ : ∃ a4, a3.put (some 80) (pv x) = a4 := ⟨_, rfl⟩
  show wpAnyH _ _ _ _ _ 6 _ (a3.put (some 80) (pv x)) _
  rw [ea4]
  have z4 : a4.tmps.size = 103 := by rw [← ea4, put_size]; exact z3
  have t75 : a4.eval (.tmp 75) = pv rb := by rw [← ea4, ev_other _ _ _ _ (by decide)]; exact s75
  have t78 : a4.eval (.tmp 78) = .pointer (some ⟨rb, 14, none⟩) := by rw [← ea4, ev_other _ _ _ _ (by decide)]; exact s78
  have t80 : a4.eval (.tmp 80) = pv x := by rw [← ea4]; exact ev_same _ _ _ (by omega)
  -- numbers 4 and 6, in either order
  have k4 : ∀ (b : Act) (W : World), b.eval (.tmp 78) = .pointer (some ⟨rb, 14, none⟩) → W.cell? ⟨rb, 14, none⟩ = some v → (execOp b.eval ((ops9 p)[4]'(by simp [ops9]))).run Yba.prog W = .ok (.value v) W := by
    intro b W hb hW
    show (execOp b.eval { dst := some 79, op := Op.load 24 (Operand.tmp 78), type := 24, pos := _, after := _, guard := none }).run Yba.prog W = _
    unfold execOp
    simp only [hb, Sem.run_bind, run_ld24 W rb 14 _ hW, Result.andThen_ok, Sem.run_pure]
  have k6 : ∀ (b : Act) (W : World), b.eval (.tmp 80) = pv x → (execOp b.eval ((ops9 p)[6]'(by simp [ops9]))).run Yba.prog W = .ok (.value (.slice (some ⟨W.heap.size, 0, none⟩) 1 1)) (W.alloc (.cells #[pv x] 27)) := by
    intro b W hb
    show (execOp b.eval { dst := some 81, op := Op.buildSlice 24 1 #[(0, Operand.tmp 80)], type := 24, pos := _, after := _, guard := none }).run Yba.prog W = _
    unfold execOp
    simp only [List.map_toArray, List.map_cons, List.map_nil, hb, Sem.run_bind, run_bs, Result.andThen_ok, Sem.run_pure]
  have old : ∀ {b : Nat} {o : Obj}, w.heap[b]? = some o → (w.drew.alloc (.cells #[pv x] 27)).heap[b]? = some o := fun {b o} h => (Below.heap_alloc w.drew _ b (lt_of_heap h)).trans h
  have hv0 : w.drew.cell? ⟨rb, 14, none⟩ = some v := by show w.cell? _ = _; rw [cell_of_heap hr]; exact hr0
  have hv1 : (w.drew.alloc (.cells #[pv x] 27)).cell? ⟨rb, 14, none⟩ = some v := by rw [cell_of_heap (old hr)]; exact hr0
  have s1 : (w.drew.alloc (.cells #[pv x] 27)).cell? ⟨bxr, 0, none⟩ = some (pv rb) := by rw [cell_of_heap (old hbx)]; exact hb0
  have fin : ∀ b : Act, b.tmps.size = 103 → b.eval (.tmp 75) = pv rb → b.eval (.tmp 79) = v → b.eval (.tmp 81) = .slice (some ⟨w.heap.size, 0, none⟩) 1 1 →
      wpAnyH Yba.prog .any (ops9 p) Q (fun w' => w'.cell? ⟨bxr, 0, none⟩ = some (pv rb)) 4 #[true, true, true, true, true, true, true, false, false, false, false] b (w.drew.alloc (.cells #[pv x] 27)) := by
    intro b zb b75 b79 b81
    refine tail9 p hpan bxr rb x v cs b _ zb w.heap.size hl b75 b79 b81 cbx (old hbx) hb0 cr (old hr) hr0 (hrow.same (fun g e => by obtain ⟨c, hc⟩ := hrow.lt g e; exact (old hc).trans hc.symm)) (heap_alloc_new w.drew _) ?_
    intro a' g cap w1 h2 h3 h4
    exact hK a' g cap w1 h2 h3 (by simpa using h4)
  refine wpAnyH_all (rs := [4, 6]) (by kernel_rfl) (by simp) ?_
  intro i hi
  rcases (by simpa using hi : i = 4 ∨ i = 6) with rfl | rfl
  · refine .inl ?_
    unfold Oper.wp
    rw [show (execOp a4.eval _).run Yba.prog w.drew = _ from k4 a4 _ t78 hv0]
    refine ⟨s0, ?_⟩
    show wpAnyH _ _ _ _ _ 5 #[true, true, true, true, true, true, false, false, false, false, false] (a4.put (some 79) v) _
    refine wpAnyH_all (rs := [6]) (by kernel_rfl) (by simp) ?_
    intro i hi
    obtain rfl : i = 6 := by simpa using hi
    refine .inl ?_
    unfold Oper.wp
    rw [show (execOp (a4.put (some 79) v).eval _).run Yba.prog w.drew = _ from k6 _ _ (by rw [ev_other _ _ _ _ (by decide)]; exact t80)]
    refine ⟨s1, ?_⟩
    refine fin ((a4.put (some 79) v).put (some 81) _) (by rw [put_size, put_size]; exact z4) ?_ ?_ ?_
    · rw [ev_other _ _ _ _ (by decide), ev_other _ _ _ _ (by decide)]; exact t75
    · rw [ev_other _ _ _ _ (by decide)]; exact ev_same _ _ _ (by omega)
    · exact ev_same _ _ _ (by rw [put_size]; omega)
  · refine .inl ?_
    unfold Oper.wp
    rw [show (execOp a4.eval _).run Yba.prog w.drew = _ from k6 a4 _ t80]
    refine ⟨s1, ?_⟩
    show wpAnyH _ _ _ _ _ 5 #[true, true, true, true, false, true, true, false, false, false, false] (a4.put (some 81) (.slice (some ⟨w.heap.size, 0, none⟩) 1 1)) _
    refine wpAnyH_all (rs := [4]) (by kernel_rfl) (by simp) ?_
    intro i hi
    obtain rfl : i = 4 := by simpa using hi
    refine .inl ?_
    unfold Oper.wp
    rw [show (execOp (a4.put (some 81) (.slice (some ⟨w.heap.size, 0, none⟩) 1 1)).eval _).run Yba.prog (w.drew.alloc (.cells #[pv x] 27)) = _ from k4 _ _ (by rw [ev_other _ _ _ _ (by decide)]; exact t78) hv1]
    refine ⟨s1, ?_⟩
    refine fin ((a4.put (some 81) (.slice (some ⟨w.heap.size, 0, none⟩) 1 1)).put (some 79) v) (by rw [put_size, put_size]; exact z4) ?_ ?_ ?_
    · rw [ev_other _ _ _ _ (by decide), ev_other _ _ _ _ (by decide)]; exact t75
    · exact ev_same _ _ _ (by rw [put_size]; omega)
    · rw [ev_other _ _ _ _ (by decide)]; exact ev_same _ _ _ (by omega)

end Go.Proofs.Ybulkbqtq
