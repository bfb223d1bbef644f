import Derived.Test.YbulkbqxkLine
import Derived.Laws.BytesArg
/-
  THE WALK OF 'headOf'.
-/
namespace Go.Proofs.Ybulkbqxk
open Go.RowKit

theorem extract_take (s : ByteArray) (j : Nat) : (s.extract 0 j).toList = s.toList.take j := by
  rw [ByteArray.toList_eq, ByteArray.toList_eq, ByteArray.data_extract, Array.toList_extract]
  simp [List.extract]
theorem take_iff (s : ByteArray) (p : Str) : ((s.extract 0 p.length).toList == p) = decide (p <+: s.toList) := by
  rw [extract_take, Bool.eq_iff_iff, beq_iff_eq, decide_eq_true_iff, List.prefix_iff_eq_take]
  exact eq_comm

set_option maxHeartbeats 1000000 in
theorem lite_any (s p : ByteArray) (w : World) :
    Calls Yba.prog 30 #[.string s, .string p] w fun e w' => e = .returned (.bool (decide (p.toList <+: s.toList))) ∧ w' = w := by
  by_cases h : p.size ≤ s.size
  · have q1 : (p.size : Int) ≤ (s.size : Int) := by omega
    rw [← take_iff s p.toList, size_len]
    go_enter Yba.func30, Yba.ntmps30
    go_wp2
    go_ret
    exact ⟨rfl, rfl⟩
  · have q2 : decide (p.size ≤ s.size) = false := decide_eq_false (by omega)
    have q3 : s.size < p.size := by omega
    rw [decide_eq_false (fun hp => by have := hp.length_le; rw [size_len, size_len] at this; omega)]
    go_enter Yba.func30, Yba.ntmps30
    go_wp2
    go_ret
    exact ⟨rfl, rfl⟩

set_option maxHeartbeats 1000000 in
theorem hasPrefix_any (s p : ByteArray) (w : World) :
    Calls Yba.prog 24 #[.string s, .string p] w fun e w' => e = .returned (.bool (decide (p.toList <+: s.toList))) ∧ w' = w := by
  go_enter Yba.func24, Yba.ntmps24
  go_wp2_with (go_at_call 30; refine (lite_any _ _ _).mono ?_; rintro e w' ⟨rfl, rfl⟩)
  go_ret
  exact ⟨rfl, rfl⟩

set_option maxHeartbeats 4000000 in
set_option maxRecDepth 100000 in
theorem headOf_zero (g cap : Nat) (ia : Option Addr) (key : ByteArray) (w : World) (c0 : w.cell? ⟨g, 0, none⟩ = some (.slice ia 0 cap)) :
    Calls Yba.prog 17 #[.pointer (some ⟨g, 0, none⟩), .string key] w fun e w' => e = .returned (.tuple #[.int .u64 0, .int .i64 1]) ∧ ∃ k, w' = w.drewN k := by
  go_enter Yba.func17, Yba.ntmps17
  go_wp2
  go_ret2
  exact ⟨rfl, 0, rfl⟩

set_option maxHeartbeats 4000000 in
set_option maxRecDepth 100000 in
theorem headOf_in (g cap n : Nat) (ia : Option Addr) (skip : Nat) (key Pb : ByteArray) (w : World) (c0 : w.cell? ⟨g, 0, none⟩ = some (.slice ia n cap)) (hn0 : ((n : Int) == 0) = false)
    (c2 : w.cell? ⟨g, 2, none⟩ = some (.int .i64 (skip : Int))) (c2' : ∀ k, (w.drewN k).cell? ⟨g, 2, none⟩ = some (.int .i64 (skip : Int))) (hs : (skip : Int) ≤ 24)
    (hc : ∀ k, (convert 68 9 (.slice (some ⟨g, 4, none⟩) skip 24)).run Yba.prog (w.drewN k) = .ok (.string Pb) (w.drewN k)) (hk : (skip : Int) ≤ (key.size : Int)) (he : ((key.extract 0 skip).toList == Pb.toList) = true) (hm : Hid (key.size ≤ 9223372036854775807)) :
    Calls Yba.prog 17 #[.pointer (some ⟨g, 0, none⟩), .string key] w fun e w' => e = .returned (.tuple #[.int .u64 (headN key skip : Nat), .int .i64 0]) ∧ ∃ k, w' = w.drewN k := by
  have Hk : Hid (skip ≤ key.size) := by show skip ≤ key.size; omega
  go_enter Yba.func17, Yba.ntmps17
  go_wp2
  go_quiet (fail)
  go_wp2_with (go_at_call 28; refine (head_any _ _ _ Hk.out hm.out).mono ?_; rintro e w' ⟨rfl, k, rfl⟩)
  go_ret2
  exact ⟨rfl, _, rfl⟩
set_option maxHeartbeats 4000000 in
set_option maxRecDepth 100000 in
theorem headOf_sb (g cap n : Nat) (ia : Option Addr) (skip : Nat) (key Pb : ByteArray) (w : World) (c0 : w.cell? ⟨g, 0, none⟩ = some (.slice ia n cap)) (hn0 : ((n : Int) == 0) = false)
    (c2 : w.cell? ⟨g, 2, none⟩ = some (.int .i64 (skip : Int))) (c2' : ∀ k, (w.drewN k).cell? ⟨g, 2, none⟩ = some (.int .i64 (skip : Int))) (hs : (skip : Int) ≤ 24)
    (hc : ∀ k, (convert 68 9 (.slice (some ⟨g, 4, none⟩) skip 24)).run Yba.prog (w.drewN k) = .ok (.string Pb) (w.drewN k)) (hk : decide (skip ≤ key.size) = false) (hb : Op.bytesLess key.toList Pb.toList = true) :
    Calls Yba.prog 17 #[.pointer (some ⟨g, 0, none⟩), .string key] w fun e w' => e = .returned (.tuple #[.int .u64 0, .int .i64 (-1)]) ∧ ∃ k, w' = w.drewN k := by
  go_enter Yba.func17, Yba.ntmps17
  go_wp2
  go_quiet (fail)
  go_wp2
  go_quiet (fail)
  go_wp2
  go_ret2
  exact ⟨rfl, _, by rw [World.drewN_drewN]⟩

set_option maxHeartbeats 4000000 in
set_option maxRecDepth 100000 in
theorem headOf_sa (g cap n : Nat) (ia : Option Addr) (skip : Nat) (key Pb : ByteArray) (w : World) (c0 : w.cell? ⟨g, 0, none⟩ = some (.slice ia n cap)) (hn0 : ((n : Int) == 0) = false)
    (c2 : w.cell? ⟨g, 2, none⟩ = some (.int .i64 (skip : Int))) (c2' : ∀ k, (w.drewN k).cell? ⟨g, 2, none⟩ = some (.int .i64 (skip : Int))) (hs : (skip : Int) ≤ 24)
    (hc : ∀ k, (convert 68 9 (.slice (some ⟨g, 4, none⟩) skip 24)).run Yba.prog (w.drewN k) = .ok (.string Pb) (w.drewN k)) (hk : decide (skip ≤ key.size) = false) (hb : Op.bytesLess key.toList Pb.toList = false) :
    Calls Yba.prog 17 #[.pointer (some ⟨g, 0, none⟩), .string key] w fun e w' => e = .returned (.tuple #[.int .u64 0, .int .i64 (1)]) ∧ ∃ k, w' = w.drewN k := by
  go_enter Yba.func17, Yba.ntmps17
  go_wp2
  go_quiet (fail)
  go_wp2
  go_quiet (fail)
  go_wp2
  go_ret2
  exact ⟨rfl, _, by rw [World.drewN_drewN]⟩

set_option maxHeartbeats 4000000 in
set_option maxRecDepth 100000 in
theorem headOf_lb (g cap n : Nat) (ia : Option Addr) (skip : Nat) (key Pb : ByteArray) (w : World) (c0 : w.cell? ⟨g, 0, none⟩ = some (.slice ia n cap)) (hn0 : ((n : Int) == 0) = false)
    (c2 : w.cell? ⟨g, 2, none⟩ = some (.int .i64 (skip : Int))) (c2' : ∀ k, (w.drewN k).cell? ⟨g, 2, none⟩ = some (.int .i64 (skip : Int))) (hs : (skip : Int) ≤ 24)
    (hc : ∀ k, (convert 68 9 (.slice (some ⟨g, 4, none⟩) skip 24)).run Yba.prog (w.drewN k) = .ok (.string Pb) (w.drewN k)) (hk : (skip : Int) ≤ (key.size : Int)) (he : ((key.extract 0 skip).toList == Pb.toList) = false) (hb : Op.bytesLess key.toList Pb.toList = true) :
    Calls Yba.prog 17 #[.pointer (some ⟨g, 0, none⟩), .string key] w fun e w' => e = .returned (.tuple #[.int .u64 0, .int .i64 (-1)]) ∧ ∃ k, w' = w.drewN k := by
  go_enter Yba.func17, Yba.ntmps17
  go_wp2
  go_quiet (fail)
  go_wp2
  go_quiet (fail)
  go_wp2
  go_ret2
  exact ⟨rfl, _, by rw [World.drewN_drewN]⟩

set_option maxHeartbeats 4000000 in
set_option maxRecDepth 100000 in
theorem headOf_la (g cap n : Nat) (ia : Option Addr) (skip : Nat) (key Pb : ByteArray) (w : World) (c0 : w.cell? ⟨g, 0, none⟩ = some (.slice ia n cap)) (hn0 : ((n : Int) == 0) = false)
    (c2 : w.cell? ⟨g, 2, none⟩ = some (.int .i64 (skip : Int))) (c2' : ∀ k, (w.drewN k).cell? ⟨g, 2, none⟩ = some (.int .i64 (skip : Int))) (hs : (skip : Int) ≤ 24)
    (hc : ∀ k, (convert 68 9 (.slice (some ⟨g, 4, none⟩) skip 24)).run Yba.prog (w.drewN k) = .ok (.string Pb) (w.drewN k)) (hk : (skip : Int) ≤ (key.size : Int)) (he : ((key.extract 0 skip).toList == Pb.toList) = false) (hb : Op.bytesLess key.toList Pb.toList = false) :
    Calls Yba.prog 17 #[.pointer (some ⟨g, 0, none⟩), .string key] w fun e w' => e = .returned (.tuple #[.int .u64 0, .int .i64 (1)]) ∧ ∃ k, w' = w.drewN k := by
  go_enter Yba.func17, Yba.ntmps17
  go_wp2
  go_quiet (fail)
  go_wp2
  go_quiet (fail)
  go_wp2
  go_ret2
  exact ⟨rfl, _, by rw [World.drewN_drewN]⟩

set_option maxHeartbeats 4000000 in
set_option maxRecDepth 100000 in
theorem headOf_far_in (g ib cap n : Nat) (skip : Nat) (key K : ByteArray) (w : World) (c0 : w.cell? ⟨g, 0, none⟩ = some (.slice (some ⟨ib, 0, none⟩) n cap)) (c0' : ∀ k, (w.drewN k).cell? ⟨g, 0, none⟩ = some (.slice (some ⟨ib, 0, none⟩) n cap)) (hn0 : ((n : Int) == 0) = false) (hn' : 0 < n)
    (c2 : w.cell? ⟨g, 2, none⟩ = some (.int .i64 (skip : Int))) (c2' : ∀ k, (w.drewN k).cell? ⟨g, 2, none⟩ = some (.int .i64 (skip : Int))) (hs : decide ((skip : Int) ≤ 24) = false)
    (ck : ∀ k, (w.drewN k).cell? ⟨ib, 0, none⟩ = some (.string K)) (hK : (skip : Int) ≤ (K.size : Int)) (hm : Hid (key.size ≤ 9223372036854775807)) (hp : decide ((K.extract 0 skip).toList <+: key.toList) = true) (Hk : Hid (skip ≤ key.size)) :
    Calls Yba.prog 17 #[.pointer (some ⟨g, 0, none⟩), .string key] w fun e w' => e = .returned (.tuple #[.int .u64 ((headN key skip : Nat)), .int .i64 (0)]) ∧ ∃ k, w' = w.drewN k := by
  go_enter Yba.func17, Yba.ntmps17
  go_wp2
  go_quiet (fail)
  go_wp2_with (first
    | (go_at_call 24; refine (hasPrefix_any _ _ _).mono ?_; rintro e w' ⟨rfl, rfl⟩; rw [hp])
    | (go_at_call 28; refine (head_any _ _ _ Hk.out hm.out).mono ?_; rintro e w' ⟨rfl, k, rfl⟩))
  go_ret2
  exact ⟨rfl, _, rfl⟩

set_option maxHeartbeats 4000000 in
set_option maxRecDepth 100000 in
theorem headOf_far_b (g ib cap n : Nat) (skip : Nat) (key K : ByteArray) (w : World) (c0 : w.cell? ⟨g, 0, none⟩ = some (.slice (some ⟨ib, 0, none⟩) n cap)) (c0' : ∀ k, (w.drewN k).cell? ⟨g, 0, none⟩ = some (.slice (some ⟨ib, 0, none⟩) n cap)) (hn0 : ((n : Int) == 0) = false) (hn' : 0 < n)
    (c2 : w.cell? ⟨g, 2, none⟩ = some (.int .i64 (skip : Int))) (c2' : ∀ k, (w.drewN k).cell? ⟨g, 2, none⟩ = some (.int .i64 (skip : Int))) (hs : decide ((skip : Int) ≤ 24) = false)
    (ck : ∀ k, (w.drewN k).cell? ⟨ib, 0, none⟩ = some (.string K)) (hK : (skip : Int) ≤ (K.size : Int)) (hp : decide ((K.extract 0 skip).toList <+: key.toList) = false) (hb : Op.bytesLess key.toList (K.extract 0 skip).toList = true) :
    Calls Yba.prog 17 #[.pointer (some ⟨g, 0, none⟩), .string key] w fun e w' => e = .returned (.tuple #[.int .u64 (0), .int .i64 (-1)]) ∧ ∃ k, w' = w.drewN k := by
  go_enter Yba.func17, Yba.ntmps17
  go_wp2
  go_quiet (fail)
  go_wp2_with (first
    | (go_at_call 24; refine (hasPrefix_any _ _ _).mono ?_; rintro e w' ⟨rfl, rfl⟩; rw [hp]))
  go_ret2
  exact ⟨rfl, _, rfl⟩

set_option maxHeartbeats 4000000 in
set_option maxRecDepth 100000 in
theorem headOf_far_a (g ib cap n : Nat) (skip : Nat) (key K : ByteArray) (w : World) (c0 : w.cell? ⟨g, 0, none⟩ = some (.slice (some ⟨ib, 0, none⟩) n cap)) (c0' : ∀ k, (w.drewN k).cell? ⟨g, 0, none⟩ = some (.slice (some ⟨ib, 0, none⟩) n cap)) (hn0 : ((n : Int) == 0) = false) (hn' : 0 < n)
    (c2 : w.cell? ⟨g, 2, none⟩ = some (.int .i64 (skip : Int))) (c2' : ∀ k, (w.drewN k).cell? ⟨g, 2, none⟩ = some (.int .i64 (skip : Int))) (hs : decide ((skip : Int) ≤ 24) = false)
    (ck : ∀ k, (w.drewN k).cell? ⟨ib, 0, none⟩ = some (.string K)) (hK : (skip : Int) ≤ (K.size : Int)) (hp : decide ((K.extract 0 skip).toList <+: key.toList) = false) (hb : Op.bytesLess key.toList (K.extract 0 skip).toList = false) :
    Calls Yba.prog 17 #[.pointer (some ⟨g, 0, none⟩), .string key] w fun e w' => e = .returned (.tuple #[.int .u64 (0), .int .i64 (1)]) ∧ ∃ k, w' = w.drewN k := by
  go_enter Yba.func17, Yba.ntmps17
  go_wp2
  go_quiet (fail)
  go_wp2_with (first
    | (go_at_call 24; refine (hasPrefix_any _ _ _).mono ?_; rintro e w' ⟨rfl, rfl⟩; rw [hp]))
  go_ret2
  exact ⟨rfl, _, rfl⟩


/-- the bytes of the prefix -/
def preNums (s : ByteArray) (skip : Nat) : List Int := (List.range skip).map fun j => ((byt s j : Nat) : Int)
theorem preNums_list (s : ByteArray) (skip : Nat) (h : skip ≤ s.size) : (strOfNums (preNums s skip)).toList = s.toList.take skip := by
  rw [ByteArray.toList_eq, strOfNums_data]
  apply List.ext_getElem?
  intro j
  have hl : s.toList.length = s.size := size_len s
  by_cases hj : j < skip
  · have hj' : j < s.toList.length := by omega
    have e1 : (s.toList.take skip)[j]? = some (s.toList.getD j 0) := by
      rw [List.getElem?_take_of_lt hj, List.getD_eq_getElem?_getD, List.getElem?_eq_getElem hj']
      rfl
    rw [e1]
    simp only [preNums, List.map_map, List.getElem?_map, List.getElem?_range hj, Option.map_some, Function.comp, byt_eq, Int.toNat_natCast, UInt8.ofNat_toNat]
  · rw [List.getElem?_eq_none (by simp [preNums]; omega), List.getElem?_eq_none (by rw [List.length_take]; omega)]

section
variable {w : World} {g : Nat} {ia : Option Addr} {n cap : Nat} {ks : Nat → ByteArray} {skip : Nat}

theorem headOf_any (N : Node w g ia n cap ks skip) (hn : 0 < n) (key : ByteArray) (p : Str) (hp : p = (ks 0).toList.take skip) (hm : key.size ≤ 9223372036854775807) :
    Calls Yba.prog 17 #[.pointer (some ⟨g, 0, none⟩), .string key] w fun e w' => (∃ (h : Nat) (side : Int), e = .returned (.tuple #[.int .u64 (h : Int), .int .i64 side]) ∧
      ((p <+: key.toList ∧ h = headN key skip ∧ side = 0) ∨ (¬ p <+: key.toList ∧ key.toList < p ∧ side = -1) ∨ (¬ p <+: key.toList ∧ ¬ key.toList < p ∧ side = 1))) ∧ ∃ k, w' = w.drewN k := by
  have hsm := N.sm 0 hn
  have hpl : p.length = skip := by rw [hp, List.length_take, size_len]; omega
  have hn0 : ((n : Int) == 0) = false := by simp; omega
  have ek := size_len key
  by_cases hs : skip ≤ 24
  · have hPb : (strOfNums (preNums (ks 0) skip)).toList = p := by rw [preNums_list _ _ hsm, hp]
    have hc : ∀ k, (convert 68 9 (.slice (some ⟨g, 4, none⟩) skip 24)).run Yba.prog (w.drewN k) = .ok (.string (strOfNums (preNums (ks 0) skip))) (w.drewN k) := fun k =>
      run_convert_bytes_arg (w.drewN k) 68 5 Yba.underlying68 Yba.underlying5 g 4 skip 24 (preNums (ks 0) skip) (by simp [preNums]) (fun i hi => by
        rw [show (preNums (ks 0) skip).getD i 0 = ((byt (ks 0) i : Nat) : Int) by simp [preNums, List.getD_eq_getElem?_getD, hi]]
        exact (N.drewN k).pre i (by omega) hi) 9 Yba.underlying9
    have he : ((key.extract 0 skip).toList == (strOfNums (preNums (ks 0) skip)).toList) = decide (p <+: key.toList) := by rw [hPb, ← hpl]; exact take_iff key p
    have hb : Op.bytesLess key.toList (strOfNums (preNums (ks 0) skip)).toList = decide (key.toList < p) := by rw [hPb]; exact Go.Proofs.bytesLess_eq _ _
    by_cases hk : skip ≤ key.size
    · by_cases h1 : p <+: key.toList
      · refine (headOf_in g cap n ia skip key _ w N.items hn0 N.sk (fun k => (N.drewN k).sk) (by omega) hc (by omega) (by rw [he]; exact decide_eq_true h1) hm).mono ?_
        rintro e w' ⟨rfl, hk⟩
        exact ⟨⟨_, _, rfl, Or.inl ⟨h1, rfl, rfl⟩⟩, hk⟩
      · by_cases h2 : key.toList < p
        · refine (headOf_lb g cap n ia skip key _ w N.items hn0 N.sk (fun k => (N.drewN k).sk) (by omega) hc (by omega) (by rw [he]; exact decide_eq_false h1) (by rw [hb]; exact decide_eq_true h2)).mono ?_
          rintro e w' ⟨rfl, hk⟩
          exact ⟨⟨0, _, rfl, Or.inr (Or.inl ⟨h1, h2, rfl⟩)⟩, hk⟩
        · refine (headOf_la g cap n ia skip key _ w N.items hn0 N.sk (fun k => (N.drewN k).sk) (by omega) hc (by omega) (by rw [he]; exact decide_eq_false h1) (by rw [hb]; exact decide_eq_false h2)).mono ?_
          rintro e w' ⟨rfl, hk⟩
          exact ⟨⟨0, _, rfl, Or.inr (Or.inr ⟨h1, h2, rfl⟩)⟩, hk⟩
    · have h1 : ¬ p <+: key.toList := fun h => by have := h.length_le; omega
      by_cases h2 : key.toList < p
      · refine (headOf_sb g cap n ia skip key _ w N.items hn0 N.sk (fun k => (N.drewN k).sk) (by omega) hc (decide_eq_false hk) (by rw [hb]; exact decide_eq_true h2)).mono ?_
        rintro e w' ⟨rfl, hk⟩
        exact ⟨⟨0, _, rfl, Or.inr (Or.inl ⟨h1, h2, rfl⟩)⟩, hk⟩
      · refine (headOf_sa g cap n ia skip key _ w N.items hn0 N.sk (fun k => (N.drewN k).sk) (by omega) hc (decide_eq_false hk) (by rw [hb]; exact decide_eq_false h2)).mono ?_
        rintro e w' ⟨rfl, hk⟩
        exact ⟨⟨0, _, rfl, Or.inr (Or.inr ⟨h1, h2, rfl⟩)⟩, hk⟩
  · obtain ⟨ib, ea, hcK⟩ := N.key 0 hn
    have hi : ∀ k, (w.drewN k).cell? ⟨g, 0, none⟩ = some (.slice (some ⟨ib, 0, none⟩) n cap) := fun k => by rw [← ea]; exact N.items
    have hPb : ((ks 0).extract 0 skip).toList = p := by rw [extract_take, hp]
    have hb : Op.bytesLess key.toList ((ks 0).extract 0 skip).toList = decide (key.toList < p) := by rw [hPb]; exact Go.Proofs.bytesLess_eq _ _
    have hs2 : decide ((skip : Int) ≤ 24) = false := decide_eq_false (by omega)
    by_cases h1 : p <+: key.toList
    · refine (headOf_far_in g ib cap n skip key (ks 0) w (hi 0) hi hn0 hn N.sk (fun k => (N.drewN k).sk) hs2 (fun _ => hcK) (by omega) hm (by rw [hPb]; exact decide_eq_true h1) (by show skip ≤ key.size; have := h1.length_le; omega)).mono ?_
      rintro e w' ⟨rfl, hk⟩
      exact ⟨⟨_, _, rfl, Or.inl ⟨h1, rfl, rfl⟩⟩, hk⟩
    · by_cases h2 : key.toList < p
      · refine (headOf_far_b g ib cap n skip key (ks 0) w (hi 0) hi hn0 hn N.sk (fun k => (N.drewN k).sk) hs2 (fun _ => hcK) (by omega) (by rw [hPb]; exact decide_eq_false h1) (by rw [hb]; exact decide_eq_true h2)).mono ?_
        rintro e w' ⟨rfl, hk⟩
        exact ⟨⟨0, _, rfl, Or.inr (Or.inl ⟨h1, h2, rfl⟩)⟩, hk⟩
      · refine (headOf_far_a g ib cap n skip key (ks 0) w (hi 0) hi hn0 hn N.sk (fun k => (N.drewN k).sk) hs2 (fun _ => hcK) (by omega) (by rw [hPb]; exact decide_eq_false h1) (by rw [hb]; exact decide_eq_false h2)).mono ?_
        rintro e w' ⟨rfl, hk⟩
        exact ⟨⟨0, _, rfl, Or.inr (Or.inr ⟨h1, h2, rfl⟩)⟩, hk⟩
end
end Go.Proofs.Ybulkbqxk
