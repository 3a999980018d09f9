import Derived.Test.Qxb6616624aRows
import Derived.WalkKit
import Derived.ProofKit
import Derived.Outline
namespace Go.Proofs.Qxb6616624a
open Go.ChangeShapes Go.WideShapes Go.ChangeAt Go.RowKit

/-- The symbol of the value i of the base64url alphabet. -/
def sym (i : Int) : Int := if i < 26 then 65 + i else if i < 52 then 71 + i else if i < 62 then i - 4 else if i = 62 then 45 else 95
/-- What isBase64URL answers. -/
def isB (c : Int) : Bool := decide ((65 ≤ c ∧ c ≤ 90) ∨ (97 ≤ c ∧ c ≤ 122) ∨ (48 ≤ c ∧ c ≤ 57) ∨ c = 45 ∨ c = 95)
/-- Is c among the first k symbols? -/
def found (c : Int) : Nat → Bool
  | 0 => false
  | k + 1 => found c k || (sym k == c)

theorem sym_any (i : Int) (h0 : 0 ≤ i) (h1 : i < 64) (w : World) :
    Calls Try.prog 4 #[.int .i64 i] w fun e w' => e = .returned (.int .u8 (sym i)) ∧ w' = w := by
  by_cases c1 : i < 26
  · have hs : sym i = 65 + i := by simp [sym, c1]
    rw [hs]; clear hs
    go_enter Try.func4, Try.ntmps4
    go_wp2
    go_ret
    exact ⟨by simp, rfl⟩
  by_cases c2 : i < 52
  · have hs : sym i = 97 + i - 26 := by simp [sym, c1, c2]; omega
    rw [hs]; clear hs
    go_enter Try.func4, Try.ntmps4
    go_wp2
    go_ret
    exact ⟨by simp, rfl⟩
  by_cases c3 : i < 62
  · have hs : sym i = 48 + i - 52 := by simp [sym, c1, c2, c3]; omega
    rw [hs]; clear hs
    go_enter Try.func4, Try.ntmps4
    go_wp2
    go_ret
    exact ⟨by simp, rfl⟩
  by_cases c4 : i = 62
  · subst c4
    go_enter Try.func4, Try.ntmps4
    go_wp2
    go_ret
    exact ⟨rfl, rfl⟩
  · have hs : sym i = 95 := by simp [sym, c1, c2, c3, c4]
    rw [hs]; clear hs
    go_enter Try.func4, Try.ntmps4
    go_wp2
    go_ret
    exact ⟨rfl, rfl⟩

theorem isB_true {c : Int} (h : (65 ≤ c ∧ c ≤ 90) ∨ (97 ≤ c ∧ c ≤ 122) ∨ (48 ≤ c ∧ c ≤ 57) ∨ c = 45 ∨ c = 95) : isB c = true := decide_eq_true h
theorem isB_false {c : Int} (h : ¬ ((65 ≤ c ∧ c ≤ 90) ∨ (97 ≤ c ∧ c ≤ 122) ∨ (48 ≤ c ∧ c ≤ 57) ∨ c = 45 ∨ c = 95)) : isB c = false := decide_eq_false h

theorem ret_bool {a b : Bool} (h : a = b) : Ending.returned (.bool a) = .returned (.bool b) := by rw [h]

theorem isB_any (c : Int) (h0 : 0 ≤ c) (h1 : c ≤ 255) (w : World) :
    Calls Try.prog 6 #[.int .u8 c] w fun e w' => e = .returned (.bool (isB c)) ∧ w' = w := by
  by_cases e1 : c = 45
  · subst e1
    rw [isB_true (by omega)]
    go_enter Try.func6, Try.ntmps6
    go_wp2
    go_ret
    exact ⟨rfl, rfl⟩
  by_cases e2 : c = 95
  · subst e2
    rw [isB_true (by omega)]
    go_enter Try.func6, Try.ntmps6
    go_wp2
    go_ret
    exact ⟨rfl, rfl⟩
  rcases (by omega : c < 48 ∨ (48 ≤ c ∧ c ≤ 57) ∨ (57 < c ∧ c < 65) ∨ (65 ≤ c ∧ c ≤ 90) ∨ (90 < c ∧ c < 97) ∨ (97 ≤ c ∧ c ≤ 122) ∨ 122 < c) with g | ⟨g, g'⟩ | ⟨g, g'⟩ | ⟨g, g'⟩ | ⟨g, g'⟩ | ⟨g, g'⟩ | g
  all_goals
    first | rw [isB_true (by omega)] | rw [isB_false (by omega)]
    go_enter Try.func6, Try.ntmps6
    go_wp2
    go_ret
    exact ⟨by first | rfl | exact ret_bool (by simp; omega), rfl⟩

theorem zz_any (c : Int) (h0 : 0 ≤ c) (h1 : c ≤ 255) (w : World) :
    Calls Try.prog 5 #[.int .u8 c] w fun e w' => e = .returned (.bool (isB c)) ∧ w' = w := by
  go_enter Try.func5, Try.ntmps5
  go_wp2_with (go_at_call 6; refine (isB_any c h0 h1 _).mono ?_; rintro e w' ⟨rfl, rfl⟩)
  go_ret
  exact ⟨rfl, rfl⟩

/-- THE PLAIN LAW. -/
theorem found_iff (c : Int) : ∀ k : Nat, found c k = true ↔ ∃ j : Nat, j < k ∧ sym j = c
  | 0 => by simp [found]
  | k + 1 => by
    rw [found, Bool.or_eq_true, found_iff c k, beq_iff_eq]
    constructor
    · rintro (⟨j, hj, e⟩ | e)
      · exact ⟨j, by omega, e⟩
      · exact ⟨k, by omega, e⟩
    · rintro ⟨j, hj, e⟩
      by_cases hk : j = k
      · subst hk; exact .inr e
      · exact .inl ⟨j, by omega, e⟩
theorem found_isB (c : Int) : found c 64 = isB c := by
  rw [Bool.eq_iff_iff, found_iff]
  unfold isB
  rw [decide_eq_true_iff]
  constructor
  · rintro ⟨j, hj, rfl⟩
    unfold sym
    omega
  · rintro (h | h | h | h | h)
    · exact ⟨(c - 65).toNat, by omega, by unfold sym; omega⟩
    · exact ⟨(c - 71).toNat, by omega, by unfold sym; omega⟩
    · exact ⟨(c + 4).toNat, by omega, by unfold sym; omega⟩
    · exact ⟨62, by omega, by unfold sym; omega⟩
    · exact ⟨63, by omega, by unfold sym; omega⟩

theorem walk (c : Int) (h0 : 0 ≤ c) (h1 : c ≤ 255) (w : World) :
    Calls Try.prog 3 #[.int .u8 c] w fun e w' => e = .returned (.bool true) ∧ w' = w := by
  have hf : (isB c == found c 64) = true := by rw [found_isB]; simp
  go_enter Try.func3, Try.ntmps3
  go_wp2
  go_loop [3, 4] (fun f i => ∃ k : Nat, k ≤ 64 ∧ i = .int .i64 k ∧ f = .bool (found c k)) (fun _ i => 64 - (intOf i).toNat)
  case atStart => exact ⟨0, Nat.zero_le _, rfl, rfl⟩
  case round =>
    obtain ⟨k, hk, rfl, rfl⟩ := hrel
    by_cases hlt : k < 64
    · have H : Hid (found c (k + 1) = (found c k || (sym k == c))) := rfl
      clear hf
      by_cases he : sym k = c
      · have hb : (sym k == c) = true := by simp [he]
        clear he
        go_wp2_with (go_at_call 4; refine (sym_any _ (by omega) (by omega) _).mono ?_; rintro e w' ⟨rfl, rfl⟩)
        go_round
        case rel => exact ⟨k + 1, by omega, by go_num, by rw [H.out, hb]; simp⟩
        case measure => simp [intOf]; omega
      · have hb : (sym k == c) = false := by simp [he]
        clear he
        go_wp2_with (go_at_call 4; refine (sym_any _ (by omega) (by omega) _).mono ?_; rintro e w' ⟨rfl, rfl⟩)
        go_round
        case rel => exact ⟨k + 1, by omega, by go_num, by rw [H.out, hb]; simp⟩
        case measure => simp [intOf]; omega
    · obtain rfl : k = 64 := by omega
      go_wp2_with (go_at_call 5; refine (zz_any c h0 h1 _).mono ?_; rintro e w' ⟨rfl, rfl⟩)
      go_ret
      exact ⟨rfl, rfl⟩
end Go.Proofs.Qxb6616624a
