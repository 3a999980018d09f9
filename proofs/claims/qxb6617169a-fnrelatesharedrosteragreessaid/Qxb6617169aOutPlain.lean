/-
  PLAIN LAWS of outrank's loop. No Go in sight.
-/
import Derived.Test.Qxb6617169aCount
namespace Go.Proofs.Qxb6617169a

/-- What outrank's loop keeps: i names done, j the next place in the others. -/
structure OutSt (f : Nat → ByteArray) (x : Nat → Int) (n : Nat) (g : Nat → ByteArray) (y : Nat → Int) (m : Nat) (i j : Nat) (A C : Bool) : Prop where
  hi : i ≤ n
  hj : j ≤ m
  lo : ∀ b, b < j → ∀ a, i ≤ a → a < n → Op.bytesLess (g b).toList (f a).toList = true
  up : ∀ b, j ≤ b → b < m → ∀ a, a < i → Op.bytesLess (f a).toList (g b).toList = true
  ab : A = abv f x g y m i
  be : C = true ↔ (∃ a, a < i ∧ x a < cnt g y (f a) m) ∨ (∃ b, b < j ∧ 0 < y b ∧ ∀ a, a < n → f a ≠ g b)

section
variable {f : Nat → ByteArray} {x : Nat → Int} {n : Nat} {g : Nat → ByteArray} {y : Nat → Int} {m i j k : Nat} {A C A' C' : Bool}
theorem OutSt.start : OutSt f x n g y m 0 0 false false :=
  ⟨by omega, by omega, fun b hb => absurd hb (by omega), fun b _ _ a ha => absurd ha (by omega), rfl, by simp⟩

theorem pos_shift {j k : Nat} : pos (fun t => y (j + t)) (k - j) = true ↔ ∃ b, j ≤ b ∧ b < k ∧ 0 < y b := by
  rw [pos_iff]
  constructor
  · rintro ⟨t, ht, hp⟩
    exact ⟨j + t, by omega, by omega, hp⟩
  · rintro ⟨b, h1, h2, hp⟩
    exact ⟨b - j, by omega, by simpa [show j + (b - j) = b by omega] using hp⟩

theorem isAt_eq (h : isAt g m (f i) k = true) : k < m ∧ g k = f i := by
  simp only [isAt, Bool.and_eq_true, decide_eq_true_eq, beq_iff_eq] at h
  exact ⟨h.1, toList_inj h.2⟩
theorem isAt_ne (h : isAt g m (f i) k = false) (hk : k < m) : g k ≠ f i := by
  intro e
  simp [isAt, hk, e] at h

/-- The others between are no names of f. -/
theorem OutSt.strange (h : OutSt f x n g y m i j A C) (hf : Rises f n) (hin : i < n) (hF : FoundAt g m (f i) k) {b : Nat} (h1 : j ≤ b) (h2 : b < k) : ∀ a, a < n → f a ≠ g b := by
  intro a ha e
  have hbm : b < m := by have := hF.le; omega
  by_cases hai : a < i
  · exact bl_ne (h.up b h1 hbm a hai) (by rw [e])
  · have hb := hF.lo b h2
    by_cases ea : a = i
    · subst ea; exact bl_ne hb (by rw [e])
    · have := bl_trans _ _ _ hb (hf i a (by omega) ha)
      exact bl_ne this (by rw [e])

/-- The other reading does not name it. -/
theorem OutSt.miss (h : OutSt f x n g y m i j A C) (hf : Rises f n) (hg : Rises g m) (hx : ∀ a, a < n → 0 ≤ x a) (hin : i < n) (hF : FoundAt g m (f i) k) (hjk : j ≤ k) (hat : isAt g m (f i) k = false)
    (hA : A' = (A || decide (0 < x i))) (hC : C' = (C || pos (fun t => y (j + t)) (k - j))) : OutSt f x n g y m (i + 1) k A' C' := by
  have hkm := hF.le
  have hgt : ∀ b, k ≤ b → b < m → Op.bytesLess (f i).toList (g b).toList = true := by
    intro b h1 h2
    cases q : Op.bytesLess (f i).toList (g b).toList
    · have hb := hF.hi b h1 h2
      have e := bl_total _ _ q hb
      by_cases ek : b = k
      · subst ek; exact absurd (toList_inj e).symm (isAt_ne hat h2)
      · have := hg k b (by omega) h2
        rw [← e] at this
        rw [hF.hi k (Nat.le_refl _) (by omega)] at this; cases this
    · rfl
  have hno : ∀ b, b < m → g b ≠ f i := by
    intro b hb e
    by_cases h1 : b < k
    · exact bl_ne (hF.lo b h1) (by rw [e])
    · exact bl_ne (hgt b (by omega) hb) (by rw [e])
  have hc0 : cnt g y (f i) m = 0 := cnt_miss hno
  refine ⟨by omega, hkm, fun b hb a ha han => ?_, fun b hb hbm a ha => ?_, ?_, ?_⟩
  · exact bl_trans _ _ _ (hF.lo b hb) (hf i a (by omega) han)
  · by_cases e : a = i
    · subst e; exact hgt b hb hbm
    · exact bl_trans _ _ _ (hf a i (by omega) hin) (hgt b hb hbm)
  · rw [hA, h.ab, abv, hc0]
  · rw [hC, Bool.or_eq_true, h.be, pos_shift]
    constructor
    · rintro ((⟨a, ha, q⟩ | ⟨b, hb, q⟩) | ⟨b, h1, h2, q⟩)
      · exact .inl ⟨a, by omega, q⟩
      · exact .inr ⟨b, by omega, q⟩
      · exact .inr ⟨b, h2, q, h.strange hf hin hF h1 h2⟩
    · rintro (⟨a, ha, q⟩ | ⟨b, hb, q, q'⟩)
      · by_cases e : a = i
        · subst e; rw [hc0] at q; have := hx a hin; omega
        · exact .inl (.inl ⟨a, by omega, q⟩)
      · by_cases e : b < j
        · exact .inl (.inr ⟨b, e, q, q'⟩)
        · exact .inr ⟨b, by omega, hb, q⟩

/-- The other reading names it, at k. -/
theorem OutSt.hit (h : OutSt f x n g y m i j A C) (hf : Rises f n) (hg : Rises g m) (hin : i < n) (hF : FoundAt g m (f i) k) (hjk : j ≤ k) (hat : isAt g m (f i) k = true)
    (hA : A' = (A || decide (y k < x i))) (hC : C' = ((C || pos (fun t => y (j + t)) (k - j)) || decide (x i < y k))) : OutSt f x n g y m (i + 1) (k + 1) A' C' := by
  obtain ⟨hkm, hge⟩ := isAt_eq hat
  have hck : cnt g y (f i) m = y k := by rw [← hge]; exact cnt_rises hg hkm
  refine ⟨by omega, by omega, fun b hb a ha han => ?_, fun b hb hbm a ha => ?_, ?_, ?_⟩
  · by_cases e : b = k
    · subst e; rw [hge]; exact hf i a (by omega) han
    · exact bl_trans _ _ _ (hF.lo b (by omega)) (hf i a (by omega) han)
  · have hk : Op.bytesLess (f i).toList (g b).toList = true := by rw [← hge]; exact hg k b (by omega) hbm
    by_cases e : a = i
    · subst e; exact hk
    · exact bl_trans _ _ _ (hf a i (by omega) hin) hk
  · rw [hA, h.ab, abv, hck]
  · rw [hC, Bool.or_eq_true, Bool.or_eq_true, h.be, pos_shift, decide_eq_true_iff]
    constructor
    · rintro (((⟨a, ha, q⟩ | ⟨b, hb, q⟩) | ⟨b, h1, h2, q⟩) | q)
      · exact .inl ⟨a, by omega, q⟩
      · exact .inr ⟨b, by omega, q⟩
      · exact .inr ⟨b, by omega, q, h.strange hf hin hF h1 h2⟩
      · exact .inl ⟨i, by omega, by rw [hck]; exact q⟩
    · rintro (⟨a, ha, q⟩ | ⟨b, hb, q, q'⟩)
      · by_cases e : a = i
        · subst e; rw [hck] at q; exact .inr q
        · exact .inl (.inl (.inl ⟨a, by omega, q⟩))
      · by_cases e : b < j
        · exact .inl (.inl (.inr ⟨b, e, q, q'⟩))
        · by_cases ek : b = k
          · subst ek; exact absurd hge.symm (q' i hin)
          · exact .inl (.inr ⟨b, by omega, by omega, q⟩)

theorem below_iff (hf : Rises f n) (hg : Rises g m) (hx : ∀ a, a < n → 0 ≤ x a) : ((∃ a, a < n ∧ x a < cnt g y (f a) m) ∨ (∃ b, b < m ∧ 0 < y b ∧ ∀ a, a < n → f a ≠ g b)) ↔ abv g y f x n m = true := by
  constructor
  · rintro (h | ⟨b, hb, q, q'⟩)
    · exact blw_abv hf hg hx (blw_iff.2 h)
    · exact abv_iff.2 ⟨b, hb, by rw [cnt_miss q']; exact q⟩
  · intro h
    obtain ⟨b, hb, q⟩ := abv_iff.1 h
    by_cases hm : ∃ a, a < n ∧ f a = g b
    · obtain ⟨a, ha, e⟩ := hm
      refine .inl ⟨a, ha, ?_⟩
      rw [← e, cnt_rises hf ha] at q
      rw [e, cnt_rises hg hb]
      exact q
    · have hno : ∀ a, a < n → f a ≠ g b := fun a ha e => hm ⟨a, ha, e⟩
      rw [cnt_miss hno] at q
      exact .inr ⟨b, hb, q, hno⟩

theorem bool_eq_of_iff {a b : Bool} (h : a = true ↔ b = true) : a = b := by cases a <;> cases b <;> simp_all

/-- All names done: what outrank answers. -/
theorem OutSt.done (h : OutSt f x n g y m n j A C) (hf : Rises f n) (hg : Rises g m) (hx : ∀ a, a < n → 0 ≤ x a) : A = abv f x g y m n ∧ (C || pos (fun t => y (j + t)) (m - j)) = abv g y f x n m := by
  refine ⟨h.ab, bool_eq_of_iff ?_⟩
  rw [Bool.or_eq_true, h.be, pos_shift, ← below_iff hf hg hx]
  constructor
  · rintro ((q | ⟨b, hb, q⟩) | ⟨b, h1, h2, q⟩)
    · exact .inl q
    · exact .inr ⟨b, by have := h.hj; omega, q⟩
    · exact .inr ⟨b, h2, q, fun a ha e => bl_ne (h.up b h1 h2 a ha) (by rw [e])⟩
  · rintro (q | ⟨b, hb, q, q'⟩)
    · exact .inl (.inl q)
    · by_cases e : b < j
      · exact .inl (.inr ⟨b, e, q, q'⟩)
      · exact .inr ⟨b, by omega, hb, q⟩
/-- Both answers are known early. -/
theorem OutSt.early (h : OutSt f x n g y m i j true true) (hf : Rises f n) (hg : Rises g m) (hx : ∀ a, a < n → 0 ≤ x a) : abv f x g y m n = true ∧ abv g y f x n m = true := by
  constructor
  · obtain ⟨a, ha, q⟩ := abv_iff.1 h.ab.symm
    exact abv_iff.2 ⟨a, by have := h.hi; omega, q⟩
  · rw [← below_iff hf hg hx]
    rcases h.be.1 rfl with ⟨a, ha, q⟩ | ⟨b, hb, q⟩
    · exact .inl ⟨a, by have := h.hi; omega, q⟩
    · exact .inr ⟨b, by have := h.hj; omega, q⟩
end
end Go.Proofs.Qxb6617169a
