import Derived.Test.YbulkbqxkLaw
import Derived.Laws.BytesArg
/-
  THE WALK OF 'zzs3377bkey'.
-/
namespace Go.Proofs.Ybulkbqxk
open Go.RowKit

theorem run_two (w : World) (a b : Int) : (convert 68 9 (.slice (some ⟨w.heap.size, 0, none⟩) 2 2)).run Yba.prog (w.alloc (.cells #[.int .u8 a, .int .u8 b] 5)) = .ok (.string (strOfNums [a, b])) (w.alloc (.cells #[.int .u8 a, .int .u8 b] 5)) := by
  refine run_convert_bytes_arg _ 68 5 Yba.underlying68 Yba.underlying5 w.heap.size 0 2 2 [a, b] rfl (fun i hi => ?_) 9 Yba.underlying9
  have hr := heap_alloc_new w (.cells #[.int .u8 a, .int .u8 b] 5)
  rw [cell_row hr]
  obtain rfl | rfl : i = 0 ∨ i = 1 := by omega
  · rfl
  · rfl

set_option maxHeartbeats 1000000 in
theorem key_any (p : ByteArray) (a b : Int) (extra : Bool) (w : World) (hp : p.size ≤ 1024) :
    Calls Yba.prog 9 #[.string p, .int .u8 a, .int .u8 b, .bool extra] w fun e w' => (∃ s : ByteArray, e = .returned (.string s) ∧ s.size ≤ p.size + 11) ∧ Below w.heap.size w w' := by
  have hc := run_two
  obtain ⟨t, ht⟩ : ∃ t, strOfNums [a, b] = t := ⟨_, rfl⟩
  have hts : t.size = 2 := by rw [← ht]; exact strOfNums_size _
  have q1 : ¬ 9223372036854775807 < p.size + 8 := by omega
  have q2 : ¬ 9223372036854775807 < p.size + 8 + 2 := by omega
  have q3 : ¬ 9223372036854775807 < p.size + 8 + 2 + 1 := by omega
  have Hs : Hid (∀ x : ByteArray, x.size = 8 → (p ++ x ++ t).size ≤ p.size + 11 ∧ ∀ y : ByteArray, y.size = 1 → (p ++ x ++ t ++ y).size ≤ p.size + 11) := fun x hx => by
    exact ⟨by simp only [ByteArray.size_append]; omega, fun y hy => by simp only [ByteArray.size_append]; omega⟩
  have hb : Hid (Below w.heap.size w (w.alloc (.cells #[.int .u8 a, .int .u8 b] 5))) := (Below.refl _ _).alloc (Nat.le_refl _) _
  cases extra with
  | false =>
    go_enter Yba.func9, Yba.ntmps9
    go_wp2
    go_ret
    exact ⟨⟨_, rfl, (Hs.out _ rfl).1⟩, hb.out⟩
  | true =>
    go_enter Yba.func9, Yba.ntmps9
    go_wp2
    go_ret
    exact ⟨⟨_, rfl, (Hs.out _ rfl).2 _ rfl⟩, hb.out⟩
end Go.Proofs.Ybulkbqxk
