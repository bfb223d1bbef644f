import Derived.Test.YbulkbqxkHeadOf
/-
  THE WALK OF 'search'.
-/
namespace Go.Proofs.Ybulkbqxk
open Go.RowKit

/-- what search answers, where c is the key's place -/
def found (n c : Nat) (ks : Nat → ByteArray) (key : ByteArray) : Bool := decide (c < n) && decide ((ks c).toList = key.toList)

section
variable {w : World} {g : Nat} {ia : Option Addr} {n cap : Nat} {ks : Nat → ByteArray} {skip : Nat}

set_option maxHeartbeats 4000000 in
set_option maxRecDepth 100000 in
theorem search_zero (N : Node w g ia 0 cap ks skip) (key : ByteArray) :
    Calls Yba.prog 8 #[.pointer (some ⟨g, 0, none⟩), .string key] w fun e w' => e = .returned (.tuple #[.int .i64 0, .bool false]) ∧ ∃ k, w' = w.drewN k := by
  have HN : Hid (Node w g ia 0 cap ks skip) := N
  have c0 : ∀ k, (w.drewN k).cell? ⟨g, 0, none⟩ = some (.slice ia 0 cap) := fun k => (N.drewN k).items
  clear N
  go_enter Yba.func8, Yba.ntmps8
  go_wp2_with fail
  refine (headOf_zero g cap ia key w HN.out.items).mono ?_
  rintro e w' ⟨rfl, k, rfl⟩
  go_wp2_with (go_at_call 18; refine (outside_any _ _ _ _ _).mono ?_; rintro e w' ⟨rfl, rfl⟩)
  go_ret2
  exact ⟨rfl, k, rfl⟩

set_option maxHeartbeats 4000000 in
set_option maxRecDepth 100000 in
theorem search_pos (N : Node w g ia n cap ks skip) (hn : 0 < n) (key : ByteArray) (hm : key.size ≤ 9223372036854775807) (p : Str) (hp : p = (ks 0).toList.take skip) (hpre : ∀ j, j < n → p <+: (ks j).toList)
    (c : Nat) (hc : c ≤ n) (hcs : ∀ i, i < n → ((ks i).toList < key.toList ↔ i < c)) :
    Calls Yba.prog 8 #[.pointer (some ⟨g, 0, none⟩), .string key] w fun e w' => e = .returned (.tuple #[.int .i64 (c : Int), .bool (found n c ks key)]) ∧ ∃ k, w' = w.drewN k := by
  have hsm := N.sm 0 hn
  have hpl : p.length = skip := by rw [hp, List.length_take, size_len]; omega
  have HN : Hid (Node w g ia n cap ks skip) := N
  have c0 : ∀ k, (w.drewN k).cell? ⟨g, 0, none⟩ = some (.slice ia n cap) := fun k => (N.drewN k).items
  have HP : Hid (p.length = skip ∧ (∀ j, j < n → p <+: (ks j).toList) ∧ (∀ i, i < n → ((ks i).toList < key.toList ↔ i < c))) := ⟨hpl, hpre, hcs⟩
  have hle := N.le
  clear N hpre hcs hpl hsm
  go_enter Yba.func8, Yba.ntmps8
  go_wp2_with fail
  refine (headOf_any HN.out hn key p hp hm).mono ?_
  rintro e w' ⟨⟨h, side, rfl, hcase⟩, k, rfl⟩
  rcases hcase with ⟨h1, rfl, rfl⟩ | ⟨h1, h2, rfl⟩ | ⟨h1, h2, rfl⟩
  · have hB : Hid (∀ (i k : Nat), i < n → Calls Yba.prog 21 #[.pointer (some ⟨g, 0, none⟩), .int .i64 (i : Int), .int .u64 (headN key skip : Nat), .string key] (w.drewN k) fun e w' => e = .returned (.bool (decide (i < c))) ∧ ∃ k', w' = w.drewN k') := fun i k hi => by
      refine (before_any (HN.out.drewN k) i hi key p HP.out.1 (HP.out.2.1 i hi) h1).mono ?_
      rintro e w' ⟨rfl, k', rfl⟩
      exact ⟨by rw [decide_eq_decide.2 (HP.out.2.2 i hi)], k + k', by rw [World.drewN_drewN]⟩
    have hI : Hid (∀ (k : Nat), c < n → Calls Yba.prog 22 #[.pointer (some ⟨g, 0, none⟩), .int .i64 (c : Int), .int .u64 (headN key skip : Nat), .string key] (w.drewN k) fun e w' => e = .returned (.bool (decide ((ks c).toList = key.toList))) ∧ ∃ k', w' = w.drewN k') := fun k hi => by
      refine (is_any (HN.out.drewN k) c hi key p HP.out.1 (HP.out.2.1 c hi) h1).mono ?_
      rintro e w' ⟨rfl, k', rfl⟩
      exact ⟨rfl, k + k', by rw [World.drewN_drewN]⟩
    have hL : Hid (Calls Yba.prog 19 #[.pointer (some ⟨g, 0, none⟩), .int .u64 (headN key skip : Nat)] (w.drewN k) fun e w' => (∃ lo hi : Nat, e = .returned (.tuple #[.int .i64 (lo : Int), .int .i64 (hi : Int)]) ∧ lo ≤ c ∧ c ≤ hi ∧ hi ≤ n) ∧ w' = w.drewN k) := by
      have hk := pre_split h1
      refine line_any g ia n cap c (headN key skip) (fun j => headN (ks j) skip) (w.drewN k) (c0 k) (HN.out.drewN k).hd hle (fun i hi hl => ?_) (fun i hi hl => ?_) hc
      · have hK := pre_split (HP.out.2.1 i hi)
        refine (HP.out.2.2 i hi).1 ?_
        rw [headN_eq, headN_eq, ← HP.out.1] at hl
        rw [hk, hK, pre_lt]
        exact lt_of_hd 8 _ _ hl
      · have hK := pre_split (HP.out.2.1 i hi)
        rw [headN_eq, headN_eq, ← HP.out.1] at hl
        have : key.toList < (ks i).toList := by rw [hk, hK, pre_lt]; exact lt_of_hd 8 _ _ hl
        rcases Nat.lt_or_ge i c with h | h
        · exact absurd ((HP.out.2.2 i hi).2 h) (str_asymm this)
        · exact h
    obtain ⟨h, eh⟩ : ∃ h, headN key skip = h := ⟨_, rfl⟩
    rw [eh] at hB hI hL ⊢
    clear eh h1 hp HP HN
    have Hc : Hid (c ≤ n) := hc
    clear hc
    go_wp2_with fail
    refine hL.out.mono ?_
    rintro e w' ⟨⟨lo, hi, rfl, hlo, hhi, hhn⟩, rfl⟩
    have hw : IntKind.i64.wrap ((hi : Int) - (lo : Int)) = (hi : Int) - (lo : Int) := wrap_id _ (by omega) (by omega)
    by_cases h8 : (8 : Int) < (hi : Int) - (lo : Int)
    · go_wp2_with fail
      refine (find_any (.pointer (some ⟨g, 0, none⟩)) n c h lo hi k key w hle hB.out hlo hhi hhn).mono ?_
      rintro e w' ⟨rfl, k', rfl⟩
      by_cases hcn : c < n
      · have ef : Hid (found n c ks key = decide ((ks c).toList = key.toList)) := by show found n c ks key = _; unfold found; rw [decide_eq_true hcn]; rfl
        have q : (c : Int) < (n : Int) := by omega
        go_wp2_with (go_at_call 22; refine (hI.out k' hcn).mono ?_; rintro e w' ⟨rfl, k'', rfl⟩)
        go_ret2
        exact ⟨by rw [ef.out]; rfl, k'', rfl⟩
      · have ef : Hid (found n c ks key = false) := by show found n c ks key = _; unfold found; rw [decide_eq_false hcn]; rfl
        have q : decide (c < n) = false := decide_eq_false hcn
        go_wp2_with fail
        go_ret2
        exact ⟨by rw [ef.out]; rfl, k', rfl⟩
    · go_wp2_with fail
      go_loopg [8] (c - lo) (fun gg x wr => ∃ j k' : Nat, j ≤ c ∧ gg = c - j ∧ x = .int .i64 (j : Int) ∧ wr = w.drewN k')
      case atStart => exact ⟨lo, k, hlo, rfl, rfl, rfl⟩
      case round =>
        obtain ⟨j, k', hj, hg, rfl, rfl⟩ := hrel
        have hg' : Hid (gk = c - j) := hg
        clear hg
        by_cases hjh : j < hi
        · have q1 : (j : Int) < (hi : Int) := by omega
          go_wp2_with fail
          refine (hB.out j k' (by omega)).mono ?_
          rintro e w' ⟨rfl, k'', rfl⟩
          by_cases hjc : j < c
          · rw [decide_eq_true hjc]
            have Hj : Hid (j < c) := hjc
            clear hjc
            have hw3 : IntKind.i64.wrap ((j : Int) + 1) = ((j + 1 : Nat) : Int) := by rw [wrap_id _ (by omega) (by omega)]; omega
            go_wp2_with fail
            go_roundg (c - (j + 1))
            case measure => have := hg'.out; have := Hj.out; omega
            case rel => exact ⟨j + 1, k'', Hj.out, rfl, by go_num, rfl⟩
          · rw [decide_eq_false hjc]
            obtain rfl : j = c := by omega
            have hcn : j < n := by omega
            have ef : Hid (found n j ks key = decide ((ks j).toList = key.toList)) := by show found n j ks key = _; unfold found; rw [decide_eq_true hcn]; rfl
            have q : (j : Int) < (n : Int) := by omega
            go_wp2_with (go_at_call 22; refine (hI.out k'' hcn).mono ?_; rintro e w' ⟨rfl, k3, rfl⟩)
            go_ret2
            exact ⟨by rw [ef.out]; rfl, k3, rfl⟩
        · have ej : j = c := by omega
          subst ej
          have q1 : decide (j < hi) = false := decide_eq_false hjh
          by_cases hcn : j < n
          · have ef : Hid (found n j ks key = decide ((ks j).toList = key.toList)) := by show found n j ks key = _; unfold found; rw [decide_eq_true hcn]; rfl
            have q : (j : Int) < (n : Int) := by omega
            go_wp2_with (go_at_call 22; refine (hI.out k' hcn).mono ?_; rintro e w' ⟨rfl, k3, rfl⟩)
            go_ret2
            exact ⟨by rw [ef.out]; rfl, k3, rfl⟩
          · have ef : Hid (found n j ks key = false) := by show found n j ks key = _; unfold found; rw [decide_eq_false hcn]; rfl
            have q : decide (j < n) = false := decide_eq_false hcn
            go_wp2_with fail
            go_ret2
            exact ⟨by rw [ef.out]; rfl, k', rfl⟩
  · have ec : c = 0 := by
      have h0 := HP.out.2.2 0 hn
      rcases Nat.eq_zero_or_pos c with h | h
      · exact h
      · have := pre_split (HP.out.2.1 0 hn)
        have hlt := h0.2 h
        rw [this] at hlt
        exact absurd hlt (str_asymm (lt_of_lt_pre key.toList p _ h2))
    have ef : found n c ks key = false := by
      unfold found
      rw [Bool.and_eq_false_iff]
      by_cases hcn : c < n
      · exact Or.inr (decide_eq_false fun e => h1 (e ▸ HP.out.2.1 c hcn))
      · exact Or.inl (decide_eq_false hcn)
    have He : Hid (c = 0 ∧ found n c ks key = false) := ⟨ec, ef⟩
    clear h1 h2 hc HP ec ef hp
    go_wp2_with (go_at_call 18; refine (outside_any _ _ _ _ _).mono ?_; rintro e w' ⟨rfl, rfl⟩)
    go_ret2
    exact ⟨by rw [He.out.2, He.out.1]; rfl, k, rfl⟩
  · have ec : c = n := by
      have h0 := HP.out.2.2 (n - 1) (by omega)
      have := pre_split (HP.out.2.1 (n - 1) (by omega))
      have := gt_of_not_pre key.toList p ((ks (n - 1)).toList.drop p.length) h1 h2
      rw [← pre_split (HP.out.2.1 (n - 1) (by omega))] at this
      have := h0.1 this
      omega
    have ef : found n c ks key = false := by
      unfold found
      rw [Bool.and_eq_false_iff]
      exact Or.inl (decide_eq_false (by omega))
    have He : Hid (c = n ∧ found n c ks key = false) := ⟨ec, ef⟩
    clear h1 h2 hc HP ec ef hp
    go_wp2_with (go_at_call 18; refine (outside_any _ _ _ _ _).mono ?_; rintro e w' ⟨rfl, rfl⟩)
    go_ret2
    exact ⟨by rw [He.out.2, He.out.1]; rfl, k, rfl⟩
end
end Go.Proofs.Ybulkbqxk
