import Derived.Test.YbulkbqxkFront
/-
  SORTED AND COMPACTED STRINGS ARE STRICTLY SORTED.
-/
namespace Go.Proofs.Ybulkbqxk

theorem le_iff (a b : Str) : a ≤ b ↔ ¬ b < a := Iff.rfl
theorem str_tri (a b : Str) : a < b ∨ a = b ∨ b < a := by
  by_cases h1 : a < b
  · exact Or.inl h1
  · by_cases h2 : b < a
    · exact Or.inr (Or.inr h2)
    · exact Or.inr (Or.inl (List.le_antisymm h2 h1))
theorem str_le_trans {a b c : Str} (h : a ≤ b) (h' : b ≤ c) : a ≤ c := List.le_trans h h'
theorem lt_of_le_ne {a b : Str} (h : a ≤ b) (hne : b ≠ a) : a < b := by
  rcases str_tri a b with h1 | h1 | h1
  · exact h1
  · exact absurd h1.symm hne
  · exact absurd h1 h
theorem lt_of_le_lt {a b c : Str} (h : a ≤ b) (h' : b < c) : a < c := by
  rcases str_tri a b with h1 | h1 | h1
  · exact str_trans h1 h'
  · rw [h1]; exact h'
  · exact absurd h1 h

theorem compact_pw (d : Array Str) (hd : ∀ i j, i < j → j < d.size → d[i]! ≤ d[j]!) : ∀ m, m ≤ d.size → (Lib.compactUpTo d m).Pairwise (· < ·) ∧ ∀ x ∈ Lib.compactUpTo d m, ∀ i, m ≤ i + 1 → i < d.size → x ≤ d[i]!
  | 0, _ => by simp [Lib.compactUpTo]
  | m + 1, hm => by
    obtain ⟨h1, h2⟩ := compact_pw d hd m (by omega)
    rw [Lib.compactUpTo_succ]
    by_cases hk : Lib.keeps d m = true
    · rw [if_pos hk]
      have hk' : m = 0 ∨ d[m]! ≠ d[m - 1]! := by simpa [Lib.keeps] using hk
      refine ⟨?_, ?_⟩
      · rw [List.pairwise_append]
        refine ⟨h1, List.pairwise_singleton _ _, fun a ha b hb => ?_⟩
        obtain rfl := List.mem_singleton.1 hb
        rcases hk' with rfl | hne
        · simp [Lib.compactUpTo] at ha
        · by_cases h0 : m = 0
          · subst h0
            simp [Lib.compactUpTo] at ha
          · exact lt_of_le_lt (h2 a ha (m - 1) (by omega) (by omega)) (lt_of_le_ne (hd (m - 1) m (by omega) (by omega)) hne)
      · intro x hx i hi hid
        rw [List.mem_append] at hx
        have hmi : d[m]! ≤ d[i]! := by
          by_cases e : m = i
          · rw [e]; exact List.lt_irrefl _
          · exact hd m i (by omega) hid
        rcases hx with hx | hx
        · exact str_le_trans (h2 x hx m (by omega) (by omega)) hmi
        · rw [List.mem_singleton.1 hx]
          exact hmi
    · rw [if_neg hk, List.append_nil]
      exact ⟨h1, fun x hx i hi hid => h2 x hx i (by omega) hid⟩

theorem uniq_pw (ss : List Str) : (uniq ss).Pairwise (· < ·) := by
  have tr : ∀ a b c : List UInt8, (fun x y => decide (x ≤ y)) a b = true → (fun x y => decide (x ≤ y)) b c = true → (fun (x y : List UInt8) => decide (x ≤ y)) a c = true := fun a b c h1 h2 => by
    simp only [decide_eq_true_eq] at *
    exact List.le_trans h1 h2
  have to : ∀ a b : List UInt8, ((fun x y => decide (x ≤ y)) a b || (fun (x y : List UInt8) => decide (x ≤ y)) b a) = true := fun a b => by
    simp only [Bool.or_eq_true, decide_eq_true_eq]
    exact List.le_total a b
  have hs := List.pairwise_mergeSort tr to ss
  unfold uniq Lib.compact
  refine (compact_pw _ (fun i j hij hj => ?_) _ (by simp)).1
  rw [List.pairwise_iff_getElem] at hs
  simp only [List.size_toArray] at hj
  have := hs i j (by omega) hj hij
  have h' := of_decide_eq_true this
  have hj2 : j < (ss.mergeSort fun x y => decide (x ≤ y)).toArray.size := by rw [List.size_toArray]; exact hj
  have hi2 : i < (ss.mergeSort fun x y => decide (x ≤ y)).toArray.size := by omega
  rw [getElem!_pos (ss.mergeSort fun x y => decide (x ≤ y)).toArray i hi2, getElem!_pos (ss.mergeSort fun x y => decide (x ≤ y)).toArray j hj2]
  exact h'
end Go.Proofs.Ybulkbqxk
