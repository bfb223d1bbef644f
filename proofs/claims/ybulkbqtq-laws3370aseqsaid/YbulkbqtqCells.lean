import Derived.Test.YbulkbqtqMap
import Derived.Laws.MakeOwn
/-
  THE CELLS OF THE STRUCTS ON THE ROAD, shut behind names (a Hash is thirty-two cells), and how they are built.
-/
namespace Go.Proofs.Ybulkbqtq
open Go.RowKit

/-- a Block of round r whose Parent is h -/
def bkA (r : Int) (h : Array Value) : Array Value := #[.int .i64 0, .int .i64 r, .string ⟨#[]⟩] ++ h ++ #[.pointer none, .slice none 0 0]
/-- a link -/
def lkA (p : Option Addr) (h : Array Value) (n : Int) : Array Value := #[.pointer p] ++ h ++ #[.int .i64 n]
/-- a Certificate of round r -/
def qcA (r : Int) : Array Value := #[.int .i64 r] ++ z32 ++ #[.slice none 0 0, .slice none 0 0]

theorem run_b0 (w : World) : (Instr.build 35 #[]).run Yba.prog w = .ok (.agg (bkA 0 z32)) w := by kernel_rfl
theorem run_b1 (w : World) (r : Int) : (Instr.build 35 #[(1, .int .i64 r)]).run Yba.prog w = .ok (.agg (bkA r z32)) w := by kernel_rfl
theorem run_b2 (w : World) (r j : Int) : (Instr.build 35 #[(1, .int .i64 r), (3, .agg (hA j))]).run Yba.prog w = .ok (.agg (bkA r (hA j))) w := by kernel_rfl
theorem run_l3 (w : World) (p : Option Addr) (j n : Int) : (Instr.build 38 #[(0, .pointer p), (1, .agg (hA j)), (2, .int .i64 n)]).run Yba.prog w = .ok (.agg (lkA p (hA j) n)) w := by kernel_rfl
theorem run_l2 (w : World) (p : Option Addr) (n : Int) : (Instr.build 38 #[(0, .pointer p), (2, .int .i64 n)]).run Yba.prog w = .ok (.agg (lkA p z32 n)) w := by kernel_rfl
theorem run_q (w : World) (r : Int) : (Instr.build 66 #[(0, .int .i64 r)]).run Yba.prog w = .ok (.agg (qcA r)) w := by kernel_rfl

/-! Shut, so that the walk does not write their cells out: 'build' is folded to a name, and the name's run is known at each struct of the road. -/
def bld (t : TypeId) (ps : Array (Nat × Value)) : Sem Value := Instr.build t ps
theorem fold_bld (t : TypeId) (ps : Array (Nat × Value)) : Instr.build t ps = bld t ps := rfl
theorem run_sB0 (w : World) : (bld 35 #[]).run Yba.prog w = .ok (.agg (bkA 0 z32)) w := run_b0 w
theorem run_sB1 (w : World) (r : Int) : (bld 35 #[(1, .int .i64 r)]).run Yba.prog w = .ok (.agg (bkA r z32)) w := run_b1 w r
theorem run_sB2 (w : World) (r j : Int) : (bld 35 #[(1, .int .i64 r), (3, .agg (hA j))]).run Yba.prog w = .ok (.agg (bkA r (hA j))) w := run_b2 w r j
theorem run_sL3 (w : World) (p : Option Addr) (j n : Int) : (bld 38 #[(0, .pointer p), (1, .agg (hA j)), (2, .int .i64 n)]).run Yba.prog w = .ok (.agg (lkA p (hA j) n)) w := run_l3 w p j n
theorem run_sL2 (w : World) (p : Option Addr) (n : Int) : (bld 38 #[(0, .pointer p), (2, .int .i64 n)]).run Yba.prog w = .ok (.agg (lkA p z32 n)) w := run_l2 w p n
theorem run_sQ (w : World) (r : Int) : (bld 66 #[(0, .int .i64 r)]).run Yba.prog w = .ok (.agg (qcA r)) w := run_q w r

/-- 'make(map, n)' -/
theorem run_makeMapN (w : World) (n : Int) : (Instr.makeMap 23 (some (.int .i64 n))).run Yba.prog w = .ok (.map (some w.heap.size)) (w.alloc (.map #[] 0)) := by kernel_rfl

theorem info27 : (Yba.prog.info? 27).map (fun i => (i.zero, i.size, i.bytes)) = some (some (.pointer none), 1, 8) := by kernel_rfl

/-- n cells of a nil pointer -/
def nils (n : Nat) : Array Value := Array.replicate n (.pointer none)
theorem madeNils (n : Nat) : madeCells #[.pointer none] n = nils n := by
  apply Array.ext
  · simp [madeCells, nils]
  · intro i h1 h2
    simp [madeCells, nils, Nat.mod_one]

/-- 'make([]*link, l, c)' -/
theorem run_makeLinks (w : World) (l c : Int) (h0 : 0 ≤ l) (h1 : l ≤ c) (h2 : c ≤ 5000) :
    (Instr.makeSlice 24 (.int .i64 l) (.int .i64 c)).run Yba.prog w = .ok (.slice (some ⟨w.heap.size, 0, none⟩) l.toNat c.toNat) (w.alloc (.cells (nils c.toNat) 27)) := by
  obtain ⟨i, hi, hz, hs, hb⟩ := info_parts info27
  rw [run_make w 24 27 i _ Yba.underlying24 hi hz .i64 .i64 l c h0 h1 (by rw [hb]; omega) (by omega), hs, Nat.mul_one]
  rw [show (Value.pointer none).cells = #[.pointer none] from rfl, madeNils]
end Go.Proofs.Ybulkbqtq
