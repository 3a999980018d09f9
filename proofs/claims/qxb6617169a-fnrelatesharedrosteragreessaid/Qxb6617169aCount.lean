/-
  WALKS: positive, slices.IndexFunc, slices.ContainsFunc at it; zzCountOf, zzLessMore.
-/
import Derived.Test.Qxb6617169aLeap
import Derived.Test.Qxb6617169aModel
namespace Go.Proofs.Qxb6617169a
open Go.RowKit

theorem positive_any (c : Int) (w : World) : Calls Try.prog 30 #[.int .u64 c] w fun e w' => e = .returned (.bool (decide (0 < c))) ∧ w' = w := by
  go_enter Try.func30, Try.ntmps30
  go_wp2
  go_ret
  exact ⟨rfl, rfl⟩

/-- Is some count of the first n above 0? -/
def pos (y : Nat → Int) : Nat → Bool
  | 0 => false
  | n + 1 => pos y n || decide (0 < y n)
theorem pos_iff {y : Nat → Int} : ∀ {n : Nat}, pos y n = true ↔ ∃ i, i < n ∧ 0 < y i
  | 0 => by simp [pos]
  | n + 1 => by
    rw [pos, Bool.or_eq_true, pos_iff, decide_eq_true_iff]
    constructor
    · rintro (⟨i, hi, e⟩ | e)
      · exact ⟨i, by omega, e⟩
      · exact ⟨n, by omega, e⟩
    · rintro ⟨i, hi, e⟩
      by_cases h : i = n
      · subst h; exact .inr e
      · exact .inl ⟨i, by omega, e⟩

/-- IndexFunc's answer: not negative just where some count is above 0. -/
def IfEnds (y : Nat → Int) (n : Nat) (e : Ending) : Prop := ∃ v : Int, e = .returned (.int .i64 v) ∧ decide (0 ≤ v) = pos y n

set_option maxHeartbeats 1000000 in
theorem indexFunc_any (sv : Option Addr) (n c B : Nat) (y : Nat → Int) (w : World) (hn : n ≤ 1048576) (hS : Nums w B sv n y) :
    Calls Try.prog 32 #[.slice sv n c, .func (.func 30) #[] #[]] w fun e w' => IfEnds y n e ∧ w' = w := by
  have HS := keep hS
  clear hS
  go_enter Try.func32, Try.ntmps32
  go_wp2
  go_loop [8] (fun i => ∃ j : Nat, j ≤ n ∧ i = .int .i64 (j : Int) ∧ pos y j = false) (fun i => n - (intOf i).toNat)
  case atStart => exact ⟨0, by omega, rfl, rfl⟩
  case round =>
    obtain ⟨j, hj, rfl, hp⟩ := hrel
    have HP := keep hp
    clear hp
    by_cases hlt : j < n
    · have hlt' : (j : Int) < (n : Int) := by omega
      obtain ⟨b, off, rfl, _, hc⟩ := HS.out j hlt
      by_cases hpos : 0 < y j
      · have hd : decide (0 < y j) = true := by simpa using hpos
        have HQ := keep (p := pos y n = true) (pos_iff.2 ⟨j, hlt, hpos⟩)
        go_wp2_with (go_at_call 30; refine (positive_any _ _).mono ?_; rintro e w' ⟨rfl, rfl⟩)
        go_ret
        exact ⟨⟨(j : Int), rfl, by rw [HQ.out]; simp⟩, rfl⟩
      · have hd : decide (0 < y j) = false := by simpa using hpos
        have HQ := keep (p := pos y (j + 1) = false) (by rw [pos, HP.out, hd]; rfl)
        go_wp2_with (go_at_call 30; refine (positive_any _ _).mono ?_; rintro e w' ⟨rfl, rfl⟩)
        go_round
        case rel => exact ⟨j + 1, by omega, by go_num, HQ.out⟩
        case measure => simp [intOf]; omega
    · obtain rfl : j = n := by omega
      go_wp2
      go_ret
      exact ⟨⟨-1, rfl, by rw [HP.out]; rfl⟩, rfl⟩

theorem contains_any (sv : Option Addr) (n c B : Nat) (y : Nat → Int) (w : World) (hn : n ≤ 1048576) (hS : Nums w B sv n y) :
    Calls Try.prog 29 #[.slice sv n c, .func (.func 30) #[] #[]] w fun e w' => e = .returned (.bool (pos y n)) ∧ w' = w := by
  have HS := keep hS
  clear hS
  go_enter Try.func29, Try.ntmps29
  go_wp2_with fail
  refine (indexFunc_any sv n c B y w hn HS.out).mono ?_
  rintro e w' ⟨⟨v, rfl, hv⟩, rfl⟩
  go_wp2
  go_ret
  exact ⟨rfl, rfl⟩

/-! ### zzCountOf -/
theorem ret_u64 {a b : Int} (h : a = b) : Ending.returned (.int .u64 a) = .returned (.int .u64 b) := by rw [h]
set_option maxHeartbeats 400000 in
theorem countOf_any (sv : Option Addr) (n c : Nat) (tv : Option Addr) (d B B' : Nat) (f : Nat → ByteArray) (x : Nat → Int) (p : ByteArray) (w : World) (hn : n ≤ 1048576) (hS : Strs w B sv n f) (hT : Nums w B' tv n x) :
    Calls Try.prog 23 #[.slice sv n c, .slice tv n d, .string p] w fun e w' => e = .returned (.int .u64 (cnt f x p n)) ∧ w' = w := by
  have HS := keep hS
  have HT := keep hT
  clear hS hT
  go_enter Try.func23, Try.ntmps23
  go_wp2
  go_loop [7] (fun i => ∃ j : Nat, j ≤ n ∧ i = .int .i64 (j : Int) ∧ has f p j = false) (fun i => n - (intOf i).toNat)
  case atStart => exact ⟨0, by omega, rfl, rfl⟩
  case round =>
    obtain ⟨j, hj, rfl, hh⟩ := hrel
    have HH := keep hh
    clear hh
    by_cases hlt : j < n
    · obtain ⟨b, off, rfl, _, hc⟩ := HS.out j hlt
      obtain ⟨b', off', rfl, _, hc'⟩ := HT.out j hlt
      have hlt' : (j : Int) < (n : Int) := by omega
      cases hb : ((f j).toList == p.toList)
      · have HB := keep hb
        go_wp2
        go_round
        case rel => exact ⟨j + 1, by omega, by go_num, by rw [has, HH.out, HB.out]; rfl⟩
        case measure => simp [intOf]; omega
      · have HB := keep hb
        go_wp2
        go_ret
        exact ⟨ret_u64 (cnt_at HH.out HB.out hlt).symm, rfl⟩
    · obtain rfl : j = n := by omega
      go_wp2
      go_ret
      exact ⟨ret_u64 (cnt_none HH.out).symm, rfl⟩

/-! ### zzLessMore -/
theorem bor_bool {a b d : Bool} (h : d = (a || b)) : (.bool d : Value) = .bool (a || b) := by rw [h]

/-- How zzLessMore ends. -/
theorem ret2_bool {a b c d : Bool} (h : a = c) (k : b = d) : Ending.returned (.tuple #[.bool a, .bool b]) = .returned (.tuple #[.bool c, .bool d]) := by rw [h, k]

set_option maxHeartbeats 1000000 in
theorem lessMore_any (sa : Option Addr) (n ca : Nat) (s1 : Option Addr) (c1 : Nat) (sb : Option Addr) (m cb : Nat) (s2 : Option Addr) (c2 : Nat) (f g : Nat → ByteArray) (x y : Nat → Int) (B : Nat) (w : World) (hn : n ≤ 1048576) (hm : m ≤ 1048576)
    (hA : Strs w B sa n f) (hX : Nums w B s1 n x) (hB : Strs w B sb m g) (hY : Nums w B s2 m y) :
    Calls Try.prog 11 #[.slice sa n ca, .slice s1 n c1, .slice sb m cb, .slice s2 m c2] w fun e w' =>
      e = .returned (.tuple #[.bool (blw f x g y m n || abv g y f x n m), .bool (abv f x g y m n || blw g y f x n m)]) ∧ w' = w := by
  have HA := keep hA
  have HX := keep hX
  have HB := keep hB
  have HY := keep hY
  clear hA hX hB hY
  go_enter Try.func11, Try.ntmps11
  go_wp2
  go_loop [10, 11, 12] (fun l r i => ∃ j : Nat, j ≤ n ∧ i = .int .i64 (j : Int) ∧ l = .bool (blw f x g y m j) ∧ r = .bool (abv f x g y m j)) (fun _ _ i => n - (intOf i).toNat)
  case atStart => exact ⟨0, by omega, rfl, rfl, rfl⟩
  case round =>
    obtain ⟨j, hj, rfl, rfl, rfl⟩ := hrel
    by_cases hlt : j < n
    · obtain ⟨b, off, rfl, _, hc⟩ := HA.out j hlt
      obtain ⟨b', off', rfl, _, hc'⟩ := HX.out j hlt
      have hlt' : (j : Int) < (n : Int) := by omega
      have HL := keep (p := blw f x g y m (j + 1) = (blw f x g y m j || decide (x j < cnt g y (f j) m))) rfl
      have HR := keep (p := abv f x g y m (j + 1) = (abv f x g y m j || decide (cnt g y (f j) m < x j))) rfl
      go_wp2_with fail
      refine (countOf_any sb m cb s2 c2 B B g y (f j) w hm HB.out HY.out).mono ?_
      rintro e w' ⟨rfl, rfl⟩
      obtain ⟨C, HC⟩ : ∃ C, Hid (cnt g y (f j) m = C) := ⟨_, rfl⟩
      rw [HC.out] at HL HR ⊢
      rcases Int.lt_trichotomy (x j) C with h1 | h1 | h1
      · have d1 : decide (x j < C) = true := by simp; omega
        have d2 : decide (C < x j) = false := by simp; omega
        have D1 := keep d1
        have D2 := keep d2
        go_wp2
        go_round
        case rel => exact ⟨j + 1, by omega, by go_num, by rw [HL.out, D1.out]; simp, by rw [HR.out, D2.out]; simp⟩
        case measure => simp [intOf]; omega
      · have d1 : decide (x j < C) = false := by simp; omega
        have d2 : decide (C < x j) = false := by simp; omega
        have D1 := keep d1
        have D2 := keep d2
        have h2 : ¬ x j < C := by omega
        have h3 : ¬ C < x j := by omega
        clear h1
        go_wp2
        go_round
        case rel => exact ⟨j + 1, by omega, by go_num, by rw [HL.out, D1.out]; simp, by rw [HR.out, D2.out]; simp⟩
        case measure => simp [intOf]; omega
      · have d1 : decide (x j < C) = false := by simp; omega
        have d2 : decide (C < x j) = true := by simp; omega
        have D1 := keep d1
        have D2 := keep d2
        go_wp2
        go_round
        case rel => exact ⟨j + 1, by omega, by go_num, by rw [HL.out, D1.out]; simp, by rw [HR.out, D2.out]; simp⟩
        case measure => simp [intOf]; omega
    · obtain rfl : j = n := by omega
      go_wp2
      go_loop [10, 11, 15] (fun l r i => ∃ k : Nat, k ≤ m ∧ i = .int .i64 (k : Int) ∧ l = .bool (blw f x g y m j || abv g y f x j k) ∧ r = .bool (abv f x g y m j || blw g y f x j k)) (fun _ _ i => m - (intOf i).toNat)
      case atStart => exact ⟨0, by omega, rfl, by simp [abv], by simp [blw]⟩
      case round =>
        obtain ⟨k, hk, rfl, rfl, rfl⟩ := hrel
        by_cases hlt2 : k < m
        · obtain ⟨b, off, rfl, _, hc⟩ := HB.out k hlt2
          obtain ⟨b', off', rfl, _, hc'⟩ := HY.out k hlt2
          have hlt2' : (k : Int) < (m : Int) := by omega
          have HL := keep (p := abv g y f x j (k + 1) = (abv g y f x j k || decide (cnt f x (g k) j < y k))) rfl
          have HR := keep (p := blw g y f x j (k + 1) = (blw g y f x j k || decide (y k < cnt f x (g k) j))) rfl
          go_wp2_with fail
          refine (countOf_any sa j ca s1 c1 B B f x (g k) _ hn HA.out HX.out).mono ?_
          rintro e w' ⟨rfl, rfl⟩
          obtain ⟨C, HC⟩ : ∃ C, Hid (cnt f x (g k) j = C) := ⟨_, rfl⟩
          rw [HC.out] at HL HR ⊢
          rcases Int.lt_trichotomy C (y k) with h1 | h1 | h1
          · have D1 := keep (p := decide (C < y k) = true) (by simp; omega)
            have D2 := keep (p := decide (y k < C) = false) (by simp; omega)
            go_wp2
            go_round
            case rel => exact ⟨k + 1, by omega, by go_num, by rw [HL.out, D1.out]; simp, by rw [HR.out, D2.out]; simp⟩
            case measure => simp [intOf]; omega
          · have D1 := keep (p := decide (C < y k) = false) (by simp; omega)
            have D2 := keep (p := decide (y k < C) = false) (by simp; omega)
            have h2 : ¬ y k < C := by omega
            have h3 : ¬ C < y k := by omega
            clear h1
            go_wp2
            go_round
            case rel => exact ⟨k + 1, by omega, by go_num, by rw [HL.out, D1.out]; simp, by rw [HR.out, D2.out]; simp⟩
            case measure => simp [intOf]; omega
          · have D1 := keep (p := decide (C < y k) = false) (by simp; omega)
            have D2 := keep (p := decide (y k < C) = true) (by simp; omega)
            go_wp2
            go_round
            case rel => exact ⟨k + 1, by omega, by go_num, by rw [HL.out, D1.out]; simp, by rw [HR.out, D2.out]; simp⟩
            case measure => simp [intOf]; omega
        · obtain rfl : k = m := by omega
          go_wp2
          go_ret2
          exact ⟨rfl, rfl⟩
end Go.Proofs.Qxb6617169a
