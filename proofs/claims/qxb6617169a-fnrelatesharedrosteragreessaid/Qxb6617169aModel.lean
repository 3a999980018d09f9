/-
  PLAIN LAWS: the counts of two readings. No Go in sight.
-/
import Derived.Test.Qxb6617169aLeaf
namespace Go.Proofs.Qxb6617169a

/-- The count that a reading gives p: the first of that name; 0 where it does not name p. -/
def cnt (f : Nat → ByteArray) (x : Nat → Int) (p : ByteArray) : Nat → Int
  | 0 => 0
  | n + 1 => if has f p n then cnt f x p n else if (f n).toList == p.toList then x n else 0
theorem cnt_at {f : Nat → ByteArray} {x : Nat → Int} {p : ByteArray} {j : Nat} (h : has f p j = false) (he : ((f j).toList == p.toList) = true) : ∀ {n : Nat}, j < n → cnt f x p n = x j
  | 0, hj => by omega
  | n + 1, hj => by
    rw [cnt]
    by_cases e : j = n
    · subst e; simp [h, he]
    · rw [if_pos (has_yes he (by omega))]
      exact cnt_at h he (by omega)
theorem cnt_none {f : Nat → ByteArray} {x : Nat → Int} {p : ByteArray} : ∀ {n : Nat}, has f p n = false → cnt f x p n = 0
  | 0, _ => rfl
  | n + 1, h => by
    rw [has, Bool.or_eq_false_iff] at h
    rw [cnt, if_neg (by simp [h.1]), if_neg (by simp [h.2])]
theorem has_no {f : Nat → ByteArray} {p : ByteArray} {n : Nat} (h : ∀ i, i < n → f i ≠ p) : has f p n = false := by
  cases k : has f p n
  · rfl
  · obtain ⟨i, hi, e⟩ := has_iff.1 k
    exact absurd e (h i hi)
theorem rises_ne {f : Nat → ByteArray} {n i j : Nat} (h : Rises f n) (hi : i < n) (hj : j < n) (hij : i ≠ j) : f i ≠ f j := by
  intro e
  rcases Nat.lt_or_gt_of_ne hij with q | q
  · exact bl_ne (h i j q hj) (by rw [e])
  · exact bl_ne (h j i q hi) (by rw [e])
theorem cnt_rises {f : Nat → ByteArray} {x : Nat → Int} {n i : Nat} (h : Rises f n) (hi : i < n) : cnt f x (f i) n = x i :=
  cnt_at (has_no fun a ha => rises_ne h (by omega) hi (by omega)) (by simp) hi
theorem cnt_miss {f : Nat → ByteArray} {x : Nat → Int} {p : ByteArray} {n : Nat} (h : ∀ i, i < n → f i ≠ p) : cnt f x p n = 0 := cnt_none (has_no h)

/-- Some count of the first i is above the other reading's. -/
def abv (f : Nat → ByteArray) (x : Nat → Int) (g : Nat → ByteArray) (y : Nat → Int) (m : Nat) : Nat → Bool
  | 0 => false
  | i + 1 => abv f x g y m i || decide (cnt g y (f i) m < x i)
/-- Some count of the first i is below the other reading's. -/
def blw (f : Nat → ByteArray) (x : Nat → Int) (g : Nat → ByteArray) (y : Nat → Int) (m : Nat) : Nat → Bool
  | 0 => false
  | i + 1 => blw f x g y m i || decide (x i < cnt g y (f i) m)
section
variable {f : Nat → ByteArray} {x : Nat → Int} {n : Nat} {g : Nat → ByteArray} {y : Nat → Int} {m : Nat}
theorem abv_iff : ∀ {i : Nat}, abv f x g y m i = true ↔ ∃ a, a < i ∧ cnt g y (f a) m < x a
  | 0 => by simp [abv]
  | i + 1 => by
    rw [abv, Bool.or_eq_true, abv_iff, decide_eq_true_iff]
    constructor
    · rintro (⟨a, ha, e⟩ | e)
      · exact ⟨a, by omega, e⟩
      · exact ⟨i, by omega, e⟩
    · rintro ⟨a, ha, e⟩
      by_cases h : a = i
      · subst h; exact .inr e
      · exact .inl ⟨a, by omega, e⟩
theorem blw_iff : ∀ {i : Nat}, blw f x g y m i = true ↔ ∃ a, a < i ∧ x a < cnt g y (f a) m
  | 0 => by simp [blw]
  | i + 1 => by
    rw [blw, Bool.or_eq_true, blw_iff, decide_eq_true_iff]
    constructor
    · rintro (⟨a, ha, e⟩ | e)
      · exact ⟨a, by omega, e⟩
      · exact ⟨i, by omega, e⟩
    · rintro ⟨a, ha, e⟩
      by_cases h : a = i
      · subst h; exact .inr e
      · exact .inl ⟨a, by omega, e⟩
/-- A name of f that g gives a count other than 0 stands in g. -/
theorem cnt_mem {p : ByteArray} (h : cnt g y p m ≠ 0) : ∃ j, j < m ∧ g j = p := by
  cases k : has g p m
  · exact absurd (cnt_none k) h
  · exact has_iff.1 k
theorem blw_abv (hf : Rises f n) (hg : Rises g m) (hx : ∀ i, i < n → 0 ≤ x i) (h : blw f x g y m n = true) : abv g y f x n m = true := by
  obtain ⟨a, ha, hlt⟩ := blw_iff.1 h
  obtain ⟨j, hj, e⟩ := cnt_mem (g := g) (y := y) (m := m) (p := f a) (by have := hx a ha; omega)
  refine abv_iff.2 ⟨j, hj, ?_⟩
  rw [← e, cnt_rises hg hj] at hlt
  rw [e, cnt_rises hf ha]
  exact hlt
/-- less, as the model reckons it. -/
theorem less_eq (hf : Rises f n) (hg : Rises g m) (hx : ∀ i, i < n → 0 ≤ x i) : (blw f x g y m n || abv g y f x n m) = abv g y f x n m := by
  cases h : blw f x g y m n
  · rfl
  · rw [blw_abv hf hg hx h]; rfl
theorem more_eq (hf : Rises f n) (hg : Rises g m) (hy : ∀ i, i < m → 0 ≤ y i) : (abv f x g y m n || blw g y f x n m) = abv f x g y m n := by
  cases h : blw g y f x n m
  · simp
  · rw [blw_abv hg hf hy h]; simp
end
end Go.Proofs.Qxb6617169a
