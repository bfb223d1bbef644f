import Derived.Test.YbulkbqxkPlain
import Derived.Ground.NamesProg
import Derived.Ground.Names2Prog
import Derived.Shelf.Lay
import Derived.Shelf.Slices.Clone
import Derived.Shelf.Slices.CompactS
import Derived.Shelf.Slices.In.SortNone
import Derived.Sort.OwnSorted
import Derived.Sort.Grow
import Derived.Sort.EveryDepth
import Derived.Lib.OwnBridge
/-
  slices.Clone, slices.Sort, slices.Compact AT []string, off the shelf, and what the three in a row leave.
-/
namespace Go.Proofs.Ybulkbqxk
open Go.Shelf
shelf_lay Lays2.n16 Nm2 16 at Yba as Yba.laysClone
shelf_lay Lays.n190 Nm 190 at Yba as Yba.laysSort
shelf_lay Lays.n194 Nm 194 at Yba as Yba.laysCompact
end Go.Proofs.Ybulkbqxk
namespace Go.Proofs.Ybulkbqxk
open Go.RowKit Go.Shelf Go.Sort

theorem clone_c (b off n c : Nat) (zs : List ByteArray) (w : World) (hz : n ≤ zs.length) (hbig : n * 16 ≤ 140737488355328) (hc : ∀ j, j < zs.length → w.cell? ⟨b, off + j, none⟩ = some (.string (zs.getD j ByteArray.empty))) :
    Calls Yba.prog 12 #[.slice (some ⟨b, off, none⟩) n c] w fun e w' => ∃ v', e = .returned v' ∧ w'.ownsRow w.heap.size 9 1 v' n ((zs.take n).map (Value.string)) ∧ v' ≠ .slice none 0 0 ∧ Below w.heap.size w w' :=
  Any.slices_Clone_string Yba.laysClone b off n c zs w hz hbig hc
theorem clone_nil (n c : Nat) (w : World) : Calls Yba.prog 12 #[.slice none n c] w fun e w' => e = .returned (.slice none 0 0) ∧ w' = w :=
  Any.slices_Clone_string_nil Yba.laysClone n c w
theorem sort_c (blk off cap : Nat) (zs : List (List UInt8)) (w : World) (hH : Holds encStr w blk off zs.toArray) (hblk : blk < w.heap.size) (hsz : zs.length < 4611686018427387904) :
    Calls Yba.prog 13 #[.slice (some ⟨blk, off, none⟩) zs.length cap] w fun e w' =>
      e = .returned (.tuple #[]) ∧ ∃ n os, w' = grow (putRow encStr (Sort.ahead w n) blk off (zs.mergeSort fun x y => decide (x ≤ y)).toArray) os :=
  calls_of_every_depth fun D => AnyS.slices_Sort_string_alone Yba.laysSort D blk off cap zs w hH hblk hsz
theorem sort_none (p : Option Addr) (cap : Nat) (w : World) : Calls Yba.prog 13 #[.slice p 0 cap] w fun e w' => e = .returned (.tuple #[]) ∧ w' = w :=
  calls_of_every_depth fun D => AnyS.slices_Sort_string_none_alone Yba.laysSort D p cap w
theorem compact_c (blk off cap : Nat) (zs : List (List UInt8)) (w : World) (hH : Holds encStr w blk off zs.toArray) (hsz : zs.length ≤ 9223372036854775807) (hcap : zs.length ≤ cap) :
    Calls Yba.prog 14 #[.slice (some ⟨blk, off, none⟩) zs.length cap] w fun e w' => e = .returned (.slice (some ⟨blk, off, none⟩) (Lib.compact zs).length cap) ∧ ∃ q, w' = putRow encStr (Sort.ahead w q) blk off (Lib.compact zs ++ List.replicate (zs.length - (Lib.compact zs).length) []).toArray :=
  Any.slices_Compact_string Yba.laysCompact blk off cap zs w hH hsz hcap
theorem compact_none (a : Option Addr) (cap : Nat) (w : World) : Calls Yba.prog 14 #[.slice a 0 cap] w fun e w' => e = .returned (.slice a 0 cap) ∧ w' = w :=
  Any.slices_Compact_string_empty Yba.laysCompact a cap w

/-- sorted, each once -/
def uniq (ss : List (List UInt8)) : List (List UInt8) := Lib.compact (ss.mergeSort fun x y => decide (x ≤ y))

theorem left_of {w w1 : World} {g cap n nn q : Nat} {os : Array Obj} {ss : List (List UInt8)} (hown : w1.ownsRow w.heap.size 9 1 (.slice (some ⟨g, 0, none⟩) n cap) n (ss.map encStr)) (hbel : Below w.heap.size w w1) (hbg : w.heap.size ≤ g) (hlen : ss.length = n) :
    (putRow encStr (Sort.ahead (grow (putRow encStr (Sort.ahead w1 nn) g 0 (ss.mergeSort fun x y => decide (x ≤ y)).toArray) os) q) g 0 (Lib.compact (ss.mergeSort fun x y => decide (x ≤ y)) ++ List.replicate (n - (Lib.compact (ss.mergeSort fun x y => decide (x ≤ y))).length) []).toArray).ownsRow w.heap.size 9 1 (.slice (some ⟨g, 0, none⟩) (uniq ss).length cap) (uniq ss).length ((uniq ss).map encStr) ∧
    Below w.heap.size w (putRow encStr (Sort.ahead (grow (putRow encStr (Sort.ahead w1 nn) g 0 (ss.mergeSort fun x y => decide (x ≤ y)).toArray) os) q) g 0 (Lib.compact (ss.mergeSort fun x y => decide (x ≤ y)) ++ List.replicate (n - (Lib.compact (ss.mergeSort fun x y => decide (x ≤ y))).length) []).toArray) := by
  have hl2 : (ss.mergeSort fun x y => decide (x ≤ y)).length = ss.length := List.length_mergeSort ss
  have hle := Lib.compact_length_le (ss.mergeSort fun x y => decide (x ≤ y))
  subst hlen
  rcases hown.2 with ⟨h0, _⟩ | ⟨g', cap', cur, hv, hbase, hb, h1, h2, h3, h4⟩
  · cases h0
  cases hv
  have hs := ownsRow_sorted (n := nn) (os := os) (ts := ss.mergeSort fun x y => decide (x ≤ y)) hl2 hbase hb h1 h2 h3
  have hc := Lib.ownsRow_putRow (q := q) (k := (Lib.compact (ss.mergeSort fun x y => decide (x ≤ y))).length) (ys := Lib.compact (ss.mergeSort fun x y => decide (x ≤ y)) ++ List.replicate (ss.length - (Lib.compact (ss.mergeSort fun x y => decide (x ≤ y))).length) []) hs (by simp; omega) (by omega)
  rw [List.take_left] at hc
  exact ⟨hc, Lib.below_putRow (hbel.grown (grownBy_sorted _) hbel.size (fun j hj => by cases hj; exact hbase)) hbg⟩
end Go.Proofs.Ybulkbqxk
