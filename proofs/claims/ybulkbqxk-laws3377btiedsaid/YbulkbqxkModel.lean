import Derived.Test.YbulkbqxkSearch
/-
  THE WALKS OF 'zzs3377bmodel' AND 'zzs3377bcheck', over a node that is laid as search wants it.
-/
namespace Go.Proofs.Ybulkbqxk
open Go.RowKit

/-- the node's keys are sorted and share its prefix -/
structure Good (w : World) (g : Nat) (ia : Option Addr) (n cap : Nat) (ks : Nat → ByteArray) (skip : Nat) : Prop where
  node : Node w g ia n cap ks skip
  sorted : ∀ i j, i < j → j < n → (ks i).toList < (ks j).toList
  pre : ∀ j, j < n → (ks 0).toList.take skip <+: (ks j).toList

section
variable {w : World} {g : Nat} {ia : Option Addr} {n cap : Nat} {ks : Nat → ByteArray} {skip : Nat}

theorem Good.drewN (G : Good w g ia n cap ks skip) (k : Nat) : Good (w.drewN k) g ia n cap ks skip := ⟨G.node.drewN k, G.sorted, G.pre⟩

theorem search_any (G : Good w g ia n cap ks skip) (key : ByteArray) (hm : key.size ≤ 9223372036854775807) (c : Nat) (hc : c ≤ n) (hcs : ∀ i, i < n → ((ks i).toList < key.toList ↔ i < c)) :
    Calls Yba.prog 8 #[.pointer (some ⟨g, 0, none⟩), .string key] w fun e w' => e = .returned (.tuple #[.int .i64 (c : Int), .bool (found n c ks key)]) ∧ ∃ k, w' = w.drewN k := by
  rcases Nat.eq_zero_or_pos n with h | h
  · subst h
    obtain rfl : c = 0 := by omega
    exact search_zero G.node key
  · exact search_pos G.node h key hm _ rfl G.pre c hc hcs

set_option maxHeartbeats 4000000 in
set_option maxRecDepth 100000 in
theorem model_any (G : Good w g ia n cap ks skip) (key : ByteArray) (c : Nat) (hc : c ≤ n) (hcs : ∀ i, i < n → ((ks i).toList < key.toList ↔ i < c)) :
    Calls Yba.prog 16 #[.pointer (some ⟨g, 0, none⟩), .string key] w fun e w' => e = .returned (.tuple #[.int .i64 (c : Int), .bool (found n c ks key)]) ∧ ∃ k, w' = w.drewN k := by
  have HG : Hid (Good w g ia n cap ks skip ∧ (∀ i, i < n → ((ks i).toList < key.toList ↔ i < c))) := ⟨G, hcs⟩
  have hle := G.node.le
  have c0 : w.cell? ⟨g, 0, none⟩ = some (.slice ia n cap) := G.node.items
  have c0' : ∀ k, (w.drewN k).cell? ⟨g, 0, none⟩ = some (.slice ia n cap) := fun k => (G.node.drewN k).items
  clear G hcs
  go_enter Yba.func16, Yba.ntmps16
  go_wp2_with fail
  go_loopg [6] c (fun gg x wr => ∃ j : Nat, j ≤ c ∧ gg = c - j ∧ x = .int .i64 (j : Int) ∧ wr = w)
  case atStart => exact ⟨0, by omega, by omega, rfl, rfl⟩
  case round =>
    obtain ⟨j, hj, hg, rfl, rfl⟩ := hrel
    have hg' : Hid (gk = c - j) := hg
    clear hg
    by_cases hjn : j < n
    · obtain ⟨ib, rfl, hcK⟩ := HG.out.1.node.key j hjn
      have q1 : (j : Int) < (n : Int) := by omega
      have hb : Op.bytesLess (ks j).toList key.toList = decide (j < c) := by rw [Go.Proofs.bytesLess_eq]; exact decide_eq_decide.2 (HG.out.2 j hjn)
      by_cases hjc : j < c
      · have hb1 : Op.bytesLess (ks j).toList key.toList = true := by rw [hb, decide_eq_true hjc]
        have Hj : Hid (j < c) := hjc
        have hw3 : IntKind.i64.wrap ((j : Int) + 1) = ((j + 1 : Nat) : Int) := by rw [wrap_id _ (by omega) (by omega)]; omega
        clear hb hjc
        go_wp2_with fail
        go_roundg (c - (j + 1))
        case measure => have := hg'.out; have := Hj.out; omega
        case rel => exact ⟨j + 1, Hj.out, rfl, by go_num, rfl⟩
      · have hb1 : Op.bytesLess (ks j).toList key.toList = false := by rw [hb, decide_eq_false hjc]
        have ej : j = c := by omega
        subst ej
        have ef : Hid (found n j ks key = ((ks j).toList == key.toList)) := by
          show found n j ks key = _
          unfold found
          rw [decide_eq_true hjn, Bool.true_and, Bool.eq_iff_iff]
          simp
        have hcK' : ∀ k, (wr.drewN k).cell? ⟨ib, j * 2, none⟩ = some (.string (ks j)) := fun k => hcK
        clear hb hjc
        go_wp2_with fail
        go_quiet (fail)
        go_wp2
        go_ret2
        exact ⟨by rw [ef.out]; rfl, _, rfl⟩
    · have ej : j = c := by omega
      subst ej
      have q1 : decide (j < n) = false := decide_eq_false hjn
      have ef : Hid (found n j ks key = false) := by show found n j ks key = _; unfold found; rw [decide_eq_false hjn]; rfl
      go_wp2_with fail
      go_quiet (fail)
      go_wp2
      go_ret2
      exact ⟨by rw [ef.out]; rfl, _, rfl⟩

set_option maxHeartbeats 1000000 in
theorem check_any (G : Good w g ia n cap ks skip) (key : ByteArray) (hm : key.size ≤ 9223372036854775807) :
    Calls Yba.prog 7 #[.pointer (some ⟨g, 0, none⟩), .string key] w fun e w' => e = .returned (.bool true) ∧ ∃ k, w' = w.drewN k := by
  obtain ⟨c, hc, hcs⟩ := place n (fun i => (ks i).toList) key.toList G.sorted
  have HG : Hid (Good w g ia n cap ks skip ∧ (∀ i, i < n → ((ks i).toList < key.toList ↔ i < c))) := ⟨G, hcs⟩
  clear G hcs
  go_enter Yba.func7, Yba.ntmps7
  go_wp2_with fail
  refine (search_any HG.out.1 key hm c hc HG.out.2).mono ?_
  rintro e w' ⟨rfl, k, rfl⟩
  go_wp2_with fail
  refine (model_any (HG.out.1.drewN k) key c hc HG.out.2).mono ?_
  rintro e w' ⟨rfl, k', rfl⟩
  cases found n c ks key
  · go_wp2_with fail
    go_ret
    exact ⟨rfl, _, rfl⟩
  · go_wp2_with fail
    go_ret
    exact ⟨rfl, _, rfl⟩
end
end Go.Proofs.Ybulkbqxk
