/-
  PLAIN LAWS for seat b6617169a: the byte order of strings; sorted lists; the merge of two sorted lists. No Go in sight.
-/
import Derived.Laws.Strings
namespace Go.Proofs.Qxb6617169a

theorem bl_irrefl : ∀ x : List UInt8, Op.bytesLess x x = false
  | [] => rfl
  | a :: x => by
    rw [Op.bytesLess, bl_irrefl x]
    simp
theorem bl_trans : ∀ x y z : List UInt8, Op.bytesLess x y = true → Op.bytesLess y z = true → Op.bytesLess x z = true
  | _, [], [], _, h => by cases h
  | [], _ :: _, [], _, h => by cases h
  | [], _, _ :: _, _, _ => rfl
  | _ :: _, [], _, h, _ => by cases h
  | _ :: _, _ :: _, [], _, h => by cases h
  | a :: x, b :: y, c :: z, h, k => by
    simp only [Op.bytesLess, Bool.or_eq_true, Bool.and_eq_true, decide_eq_true_eq, beq_iff_eq] at h k ⊢
    rcases h with h | ⟨rfl, h⟩
    · rcases k with k | ⟨rfl, _⟩
      · exact .inl (UInt8.lt_trans h k)
      · exact .inl h
    · rcases k with k | ⟨rfl, k⟩
      · exact .inl k
      · exact .inr ⟨rfl, bl_trans x y z h k⟩
theorem bl_total : ∀ x y : List UInt8, Op.bytesLess x y = false → Op.bytesLess y x = false → x = y
  | [], [], _, _ => rfl
  | [], _ :: _, h, _ => by cases h
  | _ :: _, [], _, h => by cases h
  | a :: x, b :: y, h, k => by
    simp only [Op.bytesLess, Bool.or_eq_false_iff, Bool.and_eq_false_iff, decide_eq_false_iff_not, beq_eq_false_iff_ne] at h k
    have e : a = b := by
      apply UInt8.toNat_inj.1
      have h1 := h.1
      have k1 := k.1
      rw [UInt8.lt_iff_toNat_lt] at h1 k1
      omega
    subst e
    have h2 : Op.bytesLess x y = false := by rcases h.2 with h' | h'; exact absurd rfl h'; exact h'
    have k2 : Op.bytesLess y x = false := by rcases k.2 with h' | h'; exact absurd rfl h'; exact h'
    rw [bl_total x y h2 k2]
theorem bl_asymm {x y : List UInt8} (h : Op.bytesLess x y = true) : Op.bytesLess y x = false := by
  cases k : Op.bytesLess y x
  · rfl
  · have := bl_trans x y x h k
    rw [bl_irrefl] at this; cases this
theorem bl_ne {x y : List UInt8} (h : Op.bytesLess x y = true) : x ≠ y := by
  rintro rfl
  rw [bl_irrefl] at h; cases h

/-- The strings f 0 .. f (n-1) are in strictly rising byte order: as zzSorted looks. -/
def srt (f : Nat → ByteArray) : Nat → Bool
  | 0 => true
  | 1 => true
  | n + 2 => srt f (n + 1) && Op.bytesLess (f n).toList (f (n + 1)).toList
theorem srt_le {f : Nat → ByteArray} {m : Nat} : ∀ {n : Nat}, srt f n = true → m ≤ n → srt f m = true
  | 0, h, hm => by obtain rfl : m = 0 := by omega
                   exact h
  | 1, h, hm => by
    rcases (by omega : m = 0 ∨ m = 1) with rfl | rfl <;> rfl
  | n + 2, h, hm => by
    by_cases e : m = n + 2
    · subst e; exact h
    · simp only [srt, Bool.and_eq_true] at h
      exact srt_le h.1 (by omega)
theorem srt_succ {f : Nat → ByteArray} {k : Nat} (hk : 1 ≤ k) : srt f (k + 1) = (srt f k && Op.bytesLess (f (k - 1)).toList (f k).toList) := by
  obtain ⟨j, rfl⟩ : ∃ j, k = j + 1 := ⟨k - 1, by omega⟩
  rfl
theorem srt_false {f : Nat → ByteArray} {i n : Nat} (h : Op.bytesLess (f i).toList (f (i + 1)).toList = false) (hn : i + 1 < n) : srt f n = false := by
  cases k : srt f n
  · rfl
  · have := srt_le (m := i + 2) k (by omega)
    simp [srt, h] at this
/-- .. and as the proofs want it. -/
def Rises (f : Nat → ByteArray) (n : Nat) : Prop := ∀ i j, i < j → j < n → Op.bytesLess (f i).toList (f j).toList = true
theorem rises_of_srt {f : Nat → ByteArray} {n : Nat} (h : srt f n = true) : Rises f n := by
  intro i j hij hj
  have step : ∀ k, k + 1 < n → Op.bytesLess (f k).toList (f (k + 1)).toList = true := by
    intro k hk
    have := srt_le (m := k + 2) h (by omega)
    simp only [srt, Bool.and_eq_true] at this
    exact this.2
  obtain ⟨d, rfl⟩ : ∃ d, j = i + 1 + d := ⟨j - (i + 1), by omega⟩
  clear hij
  induction d with
  | zero => exact step i hj
  | succ d ih => exact bl_trans _ _ _ (ih (by omega)) (step (i + 1 + d) (by omega))
theorem srt_of_rises {f : Nat → ByteArray} : ∀ {n : Nat}, Rises f n → srt f n = true
  | 0, _ => rfl
  | 1, _ => rfl
  | n + 2, h => by
    simp only [srt, Bool.and_eq_true]
    exact ⟨srt_of_rises (fun i j hij hj => h i j hij (by omega)), h n (n + 1) (by omega) (by omega)⟩

/-- A list of strings in strictly rising byte order. -/
def Up (L : List ByteArray) : Prop := L.Pairwise fun a b => Op.bytesLess a.toList b.toList = true
theorem toList_inj {a b : ByteArray} (h : a.toList = b.toList) : a = b := by
  rw [ByteArray.toList_eq, ByteArray.toList_eq] at h
  cases a; cases b
  simp at h
  rw [h]
/-- Two rising lists with the same members are one. -/
theorem up_unique : ∀ {L M : List ByteArray}, Up L → Up M → (∀ x, x ∈ L ↔ x ∈ M) → L = M
  | [], [], _, _, _ => rfl
  | [], b :: M, _, _, h => by have := (h b).2 (by simp); cases this
  | a :: L, [], _, _, h => by have := (h a).1 (by simp); cases this
  | a :: L, b :: M, hL, hM, h => by
    have hL' := List.pairwise_cons.1 hL
    have hM' := List.pairwise_cons.1 hM
    have e : a = b := by
      have h1 := (h a).1 (by simp)
      have h2 := (h b).2 (by simp)
      rcases List.mem_cons.1 h1 with e | h1
      · exact e
      · rcases List.mem_cons.1 h2 with e | h2
        · exact e.symm
        · have k1 := hM'.1 a h1
          have k2 := hL'.1 b h2
          rw [bl_asymm k1] at k2; cases k2
    subst e
    refine congrArg (a :: ·) (up_unique hL'.2 hM'.2 fun x => ?_)
    have hx := h x
    simp only [List.mem_cons] at hx
    constructor
    · intro hxL
      rcases hx.1 (.inr hxL) with e | h'
      · subst e; exact absurd rfl (bl_ne (hL'.1 x hxL))
      · exact h'
    · intro hxM
      rcases hx.2 (.inr hxM) with e | h'
      · subst e; exact absurd rfl (bl_ne (hM'.1 x hxM))
      · exact h'

/-! ### The merge that 'union' makes: what holds when i of the names f and t of the others g have been taken, and L has been gathered -/
structure Merged (f : Nat → ByteArray) (n : Nat) (g : Nat → ByteArray) (m : Nat) (i t : Nat) (L : List ByteArray) : Prop where
  len : L.length ≤ i + t
  hi : i ≤ n
  ht : t ≤ m
  up : Up L
  mem : ∀ x, x ∈ L ↔ (∃ a, a < i ∧ f a = x) ∨ (∃ b, b < t ∧ g b = x)
  lf : ∀ x ∈ L, ∀ a, i ≤ a → a < n → Op.bytesLess x.toList (f a).toList = true
  lg : ∀ x ∈ L, ∀ b, t ≤ b → b < m → Op.bytesLess x.toList (g b).toList = true

section
variable {f : Nat → ByteArray} {n : Nat} {g : Nat → ByteArray} {m i t : Nat} {L : List ByteArray}

theorem Merged.start : Merged f n g m 0 0 [] :=
  ⟨by simp, by omega, by omega, List.Pairwise.nil, (fun x => by simp), (fun x h => by cases h), (fun x h => by cases h)⟩

theorem up_snoc {L : List ByteArray} {x : ByteArray} (h : Up L) (hx : ∀ y ∈ L, Op.bytesLess y.toList x.toList = true) : Up (L ++ [x]) := by
  refine List.pairwise_append.2 ⟨h, List.pairwise_singleton _ _, fun a ha b hb => ?_⟩
  obtain rfl : b = x := by simpa using hb
  exact hx a ha

/-- A name that is below the next other is taken. -/
theorem Merged.name (h : Merged f n g m i t L) (hf : Rises f n) (hg : Rises g m) (hi : i < n) (ht : t < m) (hlt : Op.bytesLess (f i).toList (g t).toList = true) : Merged f n g m (i + 1) t (L ++ [f i]) := by
  refine ⟨by have := h.len; simp; omega, by omega, h.ht, up_snoc h.up fun y hy => h.lf y hy i (Nat.le_refl _) hi, fun x => ?_, ?_, ?_⟩
  · rw [List.mem_append, h.mem x]
    constructor
    · rintro ((⟨a, ha, e⟩ | hb) | hx)
      · exact .inl ⟨a, by omega, e⟩
      · exact .inr hb
      · exact .inl ⟨i, by omega, (List.mem_singleton.1 hx).symm⟩
    · rintro (⟨a, ha, e⟩ | hb)
      · by_cases e' : a = i
        · subst e'; exact .inr (by simp [e])
        · exact .inl (.inl ⟨a, by omega, e⟩)
      · exact .inl (.inr hb)
  · intro x hx a ha han
    rcases List.mem_append.1 hx with hx | hx
    · exact h.lf x hx a (by omega) han
    · obtain rfl : x = f i := by simpa using hx
      exact hf i a (by omega) han
  · intro x hx b hb hbm
    rcases List.mem_append.1 hx with hx | hx
    · exact h.lg x hx b hb hbm
    · obtain rfl : x = f i := by simpa using hx
      by_cases e : b = t
      · subst e; exact hlt
      · exact bl_trans _ _ _ hlt (hg t b (by omega) hbm)

/-- The next other is taken; a name that is the same is passed over. -/
theorem Merged.other (h : Merged f n g m i t L) (hf : Rises f n) (hg : Rises g m) (ht : t < m) (i' : Nat) (hi' : (i' = i ∧ (i < n → Op.bytesLess (g t).toList (f i).toList = true)) ∨ (i' = i + 1 ∧ i < n ∧ f i = g t)) : Merged f n g m i' (t + 1) (L ++ [g t]) := by
  refine ⟨by have := h.len; simp; omega, by have := h.hi; omega, by omega, up_snoc h.up fun y hy => h.lg y hy t (Nat.le_refl _) ht, fun x => ?_, ?_, ?_⟩
  · rw [List.mem_append, h.mem x]
    constructor
    · rintro ((⟨a, ha, e⟩ | ⟨b, hb, e⟩) | hx)
      · exact .inl ⟨a, by omega, e⟩
      · exact .inr ⟨b, by omega, e⟩
      · exact .inr ⟨t, by omega, (List.mem_singleton.1 hx).symm⟩
    · rintro (⟨a, ha, e⟩ | ⟨b, hb, e⟩)
      · by_cases e' : a < i
        · exact .inl (.inl ⟨a, e', e⟩)
        · rcases hi' with ⟨rfl, _⟩ | ⟨rfl, hin, hfg⟩
          · exact absurd ha e'
          · obtain rfl : a = i := by omega
            exact .inr (by simp [← e, hfg])
      · by_cases e' : b = t
        · subst e'; exact .inr (by simp [e])
        · exact .inl (.inr ⟨b, by omega, e⟩)
  · intro x hx a ha han
    rcases List.mem_append.1 hx with hx | hx
    · exact h.lf x hx a (by omega) han
    · obtain rfl : x = g t := by simpa using hx
      rcases hi' with ⟨rfl, hlt⟩ | ⟨rfl, hin, hfg⟩
      · by_cases e : a = i'
        · subst e; exact hlt han
        · exact bl_trans _ _ _ (hlt (by omega)) (hf i' a (by omega) han)
      · rw [← hfg]; exact hf i a (by omega) han
  · intro x hx b hb hbm
    rcases List.mem_append.1 hx with hx | hx
    · exact h.lg x hx b (by omega) hbm
    · obtain rfl : x = g t := by simpa using hx
      exact hg t b (by omega) hbm

/-- What 'union' hands back. -/
structure UnionOf (f : Nat → ByteArray) (n : Nat) (g : Nat → ByteArray) (m : Nat) (L : List ByteArray) : Prop where
  len : L.length ≤ n + m
  up : Up L
  mem : ∀ x, x ∈ L ↔ (∃ a, a < n ∧ f a = x) ∨ (∃ b, b < m ∧ g b = x)

/-- The names that are left. -/
def rest (f : Nat → ByteArray) (i n : Nat) : List ByteArray := (List.range (n - i)).map fun a => f (i + a)
theorem rest_length (f : Nat → ByteArray) (i n : Nat) : (rest f i n).length = n - i := by simp [rest]
theorem rest_get (f : Nat → ByteArray) (i n j : Nat) (h : j < n - i) : (rest f i n)[j]? = some (f (i + j)) := by simp [rest, h]

theorem Merged.done (h : Merged f n g m i m L) (hf : Rises f n) : UnionOf f n g m (L ++ rest f i n) := by
  have hi := h.hi
  refine ⟨by have := h.len; rw [List.length_append, rest_length]; omega, ?_, fun x => ?_⟩
  · refine List.pairwise_append.2 ⟨h.up, ?_, ?_⟩
    · unfold rest
      rw [List.pairwise_map]
      refine List.Pairwise.imp_of_mem ?_ List.pairwise_lt_range
      intro a b _ hb hab
      rw [List.mem_range] at hb
      exact hf _ _ (by omega) (by omega)
    · intro a ha b hb
      obtain ⟨j, hj, rfl⟩ := List.mem_map.1 hb
      rw [List.mem_range] at hj
      exact h.lf a ha _ (by omega) (by omega)
  · rw [List.mem_append, h.mem x]
    constructor
    · rintro ((⟨a, ha, e⟩ | hb) | hx)
      · exact .inl ⟨a, by omega, e⟩
      · exact .inr hb
      · obtain ⟨j, hj, rfl⟩ := List.mem_map.1 hx
        rw [List.mem_range] at hj
        exact .inl ⟨i + j, by omega, rfl⟩
    · rintro (⟨a, ha, e⟩ | hb)
      · by_cases e' : a < i
        · exact .inl (.inl ⟨a, e', e⟩)
        · refine .inr (List.mem_map.2 ⟨a - i, List.mem_range.2 (by omega), ?_⟩)
          show f (i + (a - i)) = x
          rw [show i + (a - i) = a by omega, e]
      · exact .inl (.inr hb)
end

theorem UnionOf.swap {f g : Nat → ByteArray} {n m : Nat} {L M : List ByteArray} (h : UnionOf f n g m L) (k : UnionOf g m f n M) : L = M :=
  up_unique h.up k.up fun x => by rw [h.mem, k.mem, or_comm]
end Go.Proofs.Qxb6617169a
