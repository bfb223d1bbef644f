import Derived.Test.YbulkbqxkHead
import Derived.Sort.Walk0
/-
  THE PLAIN LAWS OF THE SEARCH: heads and prefixes decide the order of keys. No Go.
-/
namespace Go.Proofs.Ybulkbqxk

abbrev Str := List UInt8

/-- the first m bytes of a string as a number, the greatest first, 0 behind its end -/
def hdL : Nat → Str → Nat
  | 0, _ => 0
  | m + 1, l => (l.getD 0 0).toNat * 256 ^ m + hdL m l.tail

theorem hdL_nil : ∀ m, hdL m [] = 0
  | 0 => rfl
  | m + 1 => by simp [hdL, hdL_nil m]
theorem hdL_lt : ∀ m l, hdL m l < 256 ^ m
  | 0, _ => by simp [hdL]
  | m + 1, l => by
    have h1 := hdL_lt m l.tail
    have h2 : (l.getD 0 0).toNat < 256 := UInt8.toNat_lt _
    have h3 : (l.getD 0 0).toNat * 256 ^ m ≤ 255 * 256 ^ m := Nat.mul_le_mul_right _ (by omega)
    rw [hdL, Nat.pow_succ]
    omega
theorem hdL_cons (m : Nat) (x : UInt8) (xs : Str) : hdL (m + 1) (x :: xs) = x.toNat * 256 ^ m + hdL m xs := rfl

theorem u8_lt {x y : UInt8} (h : x.toNat < y.toNat) : x < y := UInt8.lt_iff_toNat_lt.2 h
theorem u8_eq {x y : UInt8} (h : x.toNat = y.toNat) : x = y := UInt8.toNat_inj.1 h

theorem mul_gap {x y p a b : Nat} (h : x < y) (ha : a < p) : x * p + a < y * p + b := by
  have : (x + 1) * p ≤ y * p := Nat.mul_le_mul_right _ h
  rw [Nat.succ_mul] at this
  omega

/-- a lesser head belongs to the lesser string -/
theorem lt_of_hd : ∀ (m : Nat) (a b : Str), hdL m a < hdL m b → a < b
  | 0, _, _, h => absurd h (Nat.lt_irrefl _)
  | m + 1, [], [], h => absurd h (Nat.lt_irrefl _)
  | m + 1, [], y :: ys, _ => List.nil_lt_cons y ys
  | m + 1, x :: xs, [], h => by rw [hdL_nil] at h; omega
  | m + 1, x :: xs, y :: ys, h => by
    rw [hdL_cons, hdL_cons] at h
    rw [List.cons_lt_cons_iff]
    rcases Nat.lt_trichotomy x.toNat y.toNat with hl | he | hg
    · exact Or.inl (u8_lt hl)
    · exact Or.inr ⟨u8_eq he, lt_of_hd m xs ys (by rw [he] at h; omega)⟩
    · have := mul_gap (b := hdL m xs) hg (hdL_lt m ys)
      omega

/-- strings that end within equal heads: their lengths decide -/
theorem of_hd_eq : ∀ (m : Nat) (a b : Str), hdL m a = hdL m b → a.length ≤ m → b.length ≤ m → (a < b ↔ a.length < b.length) ∧ (a = b ↔ a.length = b.length)
  | 0, a, b, _, ha, hb => by
    obtain rfl := List.eq_nil_of_length_eq_zero (Nat.le_zero.1 ha)
    obtain rfl := List.eq_nil_of_length_eq_zero (Nat.le_zero.1 hb)
    simp
  | m + 1, [], [], _, _, _ => by simp
  | m + 1, [], y :: ys, _, _, _ => by simp
  | m + 1, x :: xs, [], _, _, _ => by simp
  | m + 1, x :: xs, y :: ys, h, ha, hb => by
    rw [hdL_cons, hdL_cons] at h
    have e : x.toNat = y.toNat := by
      rcases Nat.lt_trichotomy x.toNat y.toNat with hl | he | hg
      · have := mul_gap (b := hdL m ys) hl (hdL_lt m xs)
        omega
      · exact he
      · have := mul_gap (b := hdL m xs) hg (hdL_lt m ys)
        omega
    have ih := of_hd_eq m xs ys (by rw [e] at h; omega) (by simpa using ha) (by simpa using hb)
    obtain rfl := u8_eq e
    rw [List.cons_lt_cons_iff]
    simp [ih.1, ih.2]

theorem pre_lt (p a b : Str) : p ++ a < p ++ b ↔ a < b := by
  induction p with
  | nil => rfl
  | cons x xs ih => rw [List.cons_append, List.cons_append, List.cons_lt_cons_iff]; simp [ih]

/-- a string below p is below all that start with p -/
theorem lt_of_lt_pre : ∀ (k p a : Str), k < p → k < p ++ a
  | _, [], _, h => absurd h (List.not_lt_nil _)
  | [], y :: ys, a, _ => List.nil_lt_cons y (ys ++ a)
  | x :: xs, y :: ys, a, h => by
    rw [List.cons_append]
    rw [List.cons_lt_cons_iff] at h ⊢
    rcases h with h | ⟨rfl, h⟩
    · exact Or.inl h
    · exact Or.inr ⟨rfl, lt_of_lt_pre xs ys a h⟩

/-- a string that neither starts with p nor lies below p lies above all that start with p -/
theorem gt_of_not_pre : ∀ (k p a : Str), ¬ p <+: k → ¬ k < p → p ++ a < k
  | k, [], a, h, _ => absurd (List.nil_prefix) h
  | [], y :: ys, _, _, h => absurd (List.nil_lt_cons y ys) h
  | x :: xs, y :: ys, a, hp, h => by
    rw [List.cons_append]
    rw [List.cons_lt_cons_iff] at h ⊢
    rcases Nat.lt_trichotomy x.toNat y.toNat with hl | he | hg
    · exact absurd (Or.inl (u8_lt hl)) h
    · obtain rfl := u8_eq he
      refine Or.inr ⟨rfl, gt_of_not_pre xs ys a (fun hq => hp ?_) (fun hq => h (Or.inr ⟨rfl, hq⟩))⟩
      exact List.cons_prefix_cons.2 ⟨rfl, hq⟩
    · exact Or.inl (u8_lt hg)

/-- what lies between two strings that start with p starts with p -/
theorem pre_between : ∀ (p a k b : Str), (p ++ a < k ∨ p ++ a = k) → (k < p ++ b ∨ k = p ++ b) → p <+: k
  | [], _, _, _, _, _ => List.nil_prefix
  | x :: xs, a, [], b, h, _ => by
    rcases h with h | h
    · exact absurd h (List.not_lt_nil _)
    · cases h
  | x :: xs, a, y :: ys, b, h1, h2 => by
    rw [List.cons_append, List.cons_lt_cons_iff, List.cons.injEq] at h1 h2
    have hx : ¬ y < x → ¬ x < y → x = y := fun h h' => by
      rw [UInt8.lt_iff_toNat_lt] at h h'
      exact u8_eq (by omega)
    have e : x = y := by
      rcases h1 with (h1 | ⟨rfl, _⟩) | ⟨rfl, _⟩
      · rcases h2 with (h2 | ⟨rfl, _⟩) | ⟨rfl, _⟩
        · rw [UInt8.lt_iff_toNat_lt] at h1 h2
          omega
        · rfl
        · rfl
      · rfl
      · rfl
    subst e
    have ne : ¬ x < x := by rw [UInt8.lt_iff_toNat_lt]; omega
    refine List.cons_prefix_cons.2 ⟨rfl, pre_between xs a ys b ?_ ?_⟩
    · rcases h1 with (h1 | ⟨_, h1⟩) | ⟨_, h1⟩
      · exact absurd h1 ne
      · exact Or.inl h1
      · exact Or.inr h1
    · rcases h2 with (h2 | ⟨_, h2⟩) | ⟨_, h2⟩
      · exact absurd h2 ne
      · exact Or.inl h2
      · exact Or.inr h2

theorem str_irrefl (a : Str) : ¬ a < a := List.lt_irrefl a
theorem str_trans {a b c : Str} (h : a < b) (h' : b < c) : a < c := List.lt_trans h h'
theorem str_asymm {a b : Str} (h : a < b) : ¬ b < a := fun h' => str_irrefl a (str_trans h h')

/-- the place of a key among sorted keys -/
theorem place (n : Nat) (ks : Nat → Str) (key : Str) (hs : ∀ i j, i < j → j < n → ks i < ks j) : ∃ c, c ≤ n ∧ ∀ i, i < n → (ks i < key ↔ i < c) := by
  induction n with
  | zero => exact ⟨0, by omega, fun i hi => by omega⟩
  | succ n ih =>
    obtain ⟨c, hc, h⟩ := ih (fun i j hij hj => hs i j hij (by omega))
    by_cases hcn : c = n
    · subst hcn
      by_cases hk : ks c < key
      · exact ⟨c + 1, by omega, fun i hi => ⟨fun _ => hi, fun _ => by
          by_cases hic : i < c
          · exact (h i hic).2 hic
          · obtain rfl : i = c := by omega
            exact hk⟩⟩
      · exact ⟨c, by omega, fun i hi => by
          by_cases hic : i < c
          · exact h i hic
          · obtain rfl : i = c := by omega
            exact ⟨fun h' => absurd h' hk, fun h' => absurd h' hic⟩⟩
    · refine ⟨c, by omega, fun i hi => ?_⟩
      by_cases hin : i < n
      · exact h i hin
      · obtain rfl : i = n := by omega
        refine ⟨fun hk => ?_, fun h' => by omega⟩
        have := str_trans (hs c i (by omega) (by omega)) hk
        exact absurd ((h c (by omega)).1 this) (Nat.lt_irrefl _)

theorem size_len (s : ByteArray) : s.toList.length = s.size := by
  rw [ByteArray.toList_eq]
  simp
theorem byt_eq (s : ByteArray) (j : Nat) : byt s j = (s.toList.getD j 0).toNat := by
  rw [ByteArray.toList_eq]
  rfl
theorem headN_eq (s : ByteArray) (skip : Nat) : headN s skip = hdL 8 (s.toList.drop skip) := by
  unfold headN wordOf
  simp only [byt_eq, hdL]
  have e : ∀ (l : Str) (j : Nat), l.tail.getD j 0 = l.getD (j + 1) 0 := fun l j => by cases l <;> simp
  have e' : ∀ j, (s.toList.drop skip).getD j 0 = s.toList.getD (skip + j) 0 := fun j => by simp [List.getD_eq_getElem?_getD]
  simp only [e, e']
  simp only [Nat.zero_add, Nat.reduceAdd]
  omega

/-- two keys that share p, the first |p| bytes: what before finds -/
theorem ord_ne (p a b : Str) (h : hdL 8 a ≠ hdL 8 b) : (hdL 8 a < hdL 8 b ↔ p ++ a < p ++ b) := by
  rw [pre_lt]
  refine ⟨lt_of_hd 8 a b, fun hl => ?_⟩
  rcases Nat.lt_or_gt_of_ne h with h' | h'
  · exact h'
  · exact absurd hl (str_asymm (lt_of_hd 8 b a h'))
theorem eq_ne (p a b : Str) (h : hdL 8 a ≠ hdL 8 b) : p ++ a ≠ p ++ b := fun e => h (by rw [List.append_cancel_left e])

/-- a key that starts with p, parted behind it -/
theorem pre_split {p k : Str} (h : p <+: k) : k = p ++ k.drop p.length := by
  obtain ⟨t, rfl⟩ := h
  simp
end Go.Proofs.Ybulkbqxk
