import Derived.Test.YbulkbqtqRow
import Derived.LaidEqlPtr
/-
  THE REPLICA AND ITS CHAIN IN MEMORY; 'append' at a plain region's list; two pointers compared.
-/
namespace Go.Proofs.Ybulkbqtq
open Go.RowKit

/-- a Replica: its chain, its preferred round, what it committed, its output -/
def repA (cb : Nat) (pref : Int) (cm out : Value) : Array Value :=
  #[.int .i64 0, .slice none 0 0, .string ⟨#[]⟩, .slice none 0 0, .int .i64 0, .string ⟨#[]⟩, .string ⟨#[]⟩, .int .i64 0, .string ⟨#[]⟩, .int .i64 0, pv cb, .pointer none, .int .i64 pref, .int .i64 0, cm, out, .bool false, .pointer none, .slice none 0 0, .pointer none, .map none, .bool false]
/-- a Chain over the map in block N -/
def chnA (N : Nat) : Array Value := #[.string ⟨#[]⟩, .string ⟨#[]⟩, .int .i64 0, .map (some N), .map none, .int .i64 0]

theorem repA_chain (cb : Nat) (pref : Int) (cm out : Value) : (repA cb pref cm out)[10]? = some (pv cb) := rfl
theorem repA_pref (cb : Nat) (pref : Int) (cm out : Value) : (repA cb pref cm out)[12]? = some (.int .i64 pref) := rfl
theorem repA_com (cb : Nat) (pref : Int) (cm out : Value) : (repA cb pref cm out)[14]? = some cm := rfl
theorem repA_out (cb : Nat) (pref : Int) (cm out : Value) : (repA cb pref cm out)[15]? = some out := rfl
theorem repA_setCom (cb : Nat) (pref : Int) (cm out v : Value) : (repA cb pref cm out).setIfInBounds 14 v = repA cb pref v out := rfl
theorem repA_setOut (cb : Nat) (pref : Int) (cm out v : Value) : (repA cb pref cm out).setIfInBounds 15 v = repA cb pref cm v := rfl
theorem chnA_links (N : Nat) : (chnA N)[3]? = some (.map (some N)) := rfl

theorem run_r4 (w : World) (cb : Nat) (a : Option Addr) (n c : Nat) (p : Option Addr) (pref : Int) :
    (bld 61 #[(1, pv cb), (5, .slice a n c), (6, .pointer p), (3, .int .i64 pref)]).run Yba.prog w = .ok (.agg (repA cb pref (.slice a n c) (.pointer p))) w := by kernel_rfl
theorem run_r1 (w : World) (cb : Nat) : (bld 61 #[(1, pv cb)]).run Yba.prog w = .ok (.agg (repA cb 0 (.slice none 0 0) (.pointer none))) w := by kernel_rfl
theorem run_c1 (w : World) (N : Nat) : (bld 47 #[(1, .map (some N))]).run Yba.prog w = .ok (.agg (chnA N)) w := by kernel_rfl
theorem run_o0 (w : World) : (bld 41 #[]).run Yba.prog w = .ok (.agg #[.pointer none, .pointer none, .pointer none, .pointer none]) w := by kernel_rfl
theorem run_o4 (w : World) (p q r s : Option Addr) : (bld 41 #[(0, .pointer p), (1, .pointer q), (2, .pointer r), (3, .pointer s)]).run Yba.prog w = .ok (.agg #[.pointer p, .pointer q, .pointer r, .pointer s]) w := by kernel_rfl

/-- 'append' of one pointer, at a plain region's list. -/
theorem wpList_app {ops : Array Oper} {rest : List Oper} {o : Oper} {a : Act} {w : World} {Q : Exit → Act → World → Prop} (hgd : o.guard = none) (s x : Operand)
    (ho : o.op = .call { callee := .builtin .append, args := #[s, x], argTypes := #[24, 24] }) (hty : o.type = 24) (v : Value) (cs : List Nat) (hs : a.eval s = v) (h : Row w v cs)
    (ad b : Nat) (hx : a.eval x = .slice (some ⟨ad, 0, none⟩) 1 1) (ha : w.heap[ad]? = some (.cells #[pv b] 27)) (hl : cs.length ≤ 5000)
    (hK : ∀ g cap w', Row w' (.slice (some ⟨g, 0, none⟩) (cs.length + 1) cap) (cs ++ [b]) → Keep v cs.length w w' → (v.ownBlock = some g ∨ g = w.heap.size) → wpList Yba.prog ops Q rest (a.put o.dst (.slice (some ⟨g, 0, none⟩) (cs.length + 1) cap)) w') :
    wpList Yba.prog ops Q (o :: rest) a w :=
  wpList_plain hgd fun _ hK' => by
    obtain ⟨g, cap, w', hr, h2, h3, h4⟩ := run_app w v cs h ad b ha hl
    unfold Oper.wp execOp
    simp only [ho, hty, resolve, invoke, builtin, Sem.run_bind, Sem.run_pure, Result.andThen_ok, List.map_toArray, List.map_cons, List.map_nil, hs, hx, hr]
    exact hK' _ _ (hK g cap w' h2 h3 h4)

theorem Keep.below {v : Value} {n S : Nat} {w0 w w' : World} (h : Keep v n w w') (hb : Below S w0 w) (hS : S ≤ w.heap.size) (ho : ∀ k, v.ownBlock = some k → S ≤ k) : Below S w0 w' :=
  hb.trans ⟨h.os, h.tape, h.output, h.size, fun k hk => h.far k (by omega) (fun e => by have := ho k e; omega)⟩

theorem size_of (t n : Nat) (h : (Yba.prog.info? t).map (·.size) = some n) : ∃ j, Yba.prog.info? t = some j ∧ j.size = n := by
  cases hq : Yba.prog.info? t with
  | none => simp [hq] at h
  | some j => exact ⟨j, rfl, by simpa [hq] using h⟩

/-- 'p != q' at two pointers to blocks of cells -/
theorem run_neq (w : World) (t e n : Nat) (hu : Yba.prog.underlying t = some (.pointer e)) (hs : (Yba.prog.info? e).map (·.size) = some (n + 1)) (a b : Nat) {ca cb : Array Value} {ta tb : TypeId}
    (ha : w.heap[a]? = some (.cells ca ta)) (hb : w.heap[b]? = some (.cells cb tb)) : (binOp .neq t (pv a) (pv b)).run Yba.prog w = .ok (.bool !(a == b)) w := by
  obtain ⟨j, hj, hn⟩ := size_of e (n + 1) hs
  have h : ∀ d : Nat, (Op.equalIn (d + 1) t (pv a) (pv b)).run Yba.prog w = .ok (a == b) w := fun d => by
    by_cases hab : a = b
    · subst hab
      simp [Op.equalIn, run_underlying hu, sizeOf, typeInfo, hj, run_sameAddr_same]
    · have hne : (⟨a, 0, none⟩ : Addr) ≠ ⟨b, 0, none⟩ := fun e => hab (by cases e; rfl)
      simp [Op.equalIn, run_underlying hu, sizeOf, typeInfo, hj, hn, run_sameAddr_other w hne ha hb, hab]
  simp only [binOp]
  simp [Op.equal, Op.maxDepth, h 9999]

/-- 'p == q' likewise -/
theorem run_eql (w : World) (t e n : Nat) (hu : Yba.prog.underlying t = some (.pointer e)) (hs : (Yba.prog.info? e).map (·.size) = some (n + 1)) (a b : Nat) {ca cb : Array Value} {ta tb : TypeId}
    (ha : w.heap[a]? = some (.cells ca ta)) (hb : w.heap[b]? = some (.cells cb tb)) : (binOp .eql t (pv a) (pv b)).run Yba.prog w = .ok (.bool (a == b)) w := by
  obtain ⟨j, hj, hn⟩ := size_of e (n + 1) hs
  have h : ∀ d : Nat, (Op.equalIn (d + 1) t (pv a) (pv b)).run Yba.prog w = .ok (a == b) w := fun d => by
    by_cases hab : a = b
    · subst hab
      simp [Op.equalIn, run_underlying hu, sizeOf, typeInfo, hj, run_sameAddr_same]
    · have hne : (⟨a, 0, none⟩ : Addr) ≠ ⟨b, 0, none⟩ := fun e => hab (by cases e; rfl)
      simp [Op.equalIn, run_underlying hu, sizeOf, typeInfo, hj, hn, run_sameAddr_other w hne ha hb, hab]
  simp only [binOp]
  simp [Op.equal, Op.maxDepth, h 9999]

theorem size38 : (Yba.prog.info? 38).map (·.size) = some (33 + 1) := by kernel_rfl
theorem size35 : (Yba.prog.info? 35).map (·.size) = some (36 + 1) := by kernel_rfl
theorem size41 : (Yba.prog.info? 41).map (·.size) = some (3 + 1) := by kernel_rfl
theorem size47 : (Yba.prog.info? 47).map (·.size) = some (5 + 1) := by kernel_rfl
theorem size66 : (Yba.prog.info? 66).map (·.size) = some (34 + 1) := by kernel_rfl

end Go.Proofs.Ybulkbqtq
