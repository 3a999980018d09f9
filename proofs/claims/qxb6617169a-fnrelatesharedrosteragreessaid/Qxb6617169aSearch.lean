/-
  WALKS: cmp.Less, isNaN at strings; slices.BinarySearch over sorted strings; leap.
-/
import Derived.Test.Qxb6617169aLeaf
namespace Go.Proofs.Qxb6617169a
open Go.RowKit

theorem keep {p : Prop} (h : p) : Hid p := h

theorem nan35_any (x : ByteArray) (w : World) : Calls Try.prog 35 #[.string x] w fun e w' => e = .returned (.bool false) ∧ w' = w := by
  go_enter Try.func35, Try.ntmps35
  go_wp2
  go_ret
  exact ⟨ret_bool (by simp), rfl⟩
theorem nan34_any (x : ByteArray) (w : World) : Calls Try.prog 34 #[.string x] w fun e w' => e = .returned (.bool false) ∧ w' = w := by
  go_enter Try.func34, Try.ntmps34
  go_wp2
  go_ret
  exact ⟨ret_bool (by simp), rfl⟩
theorem less_any (x y : ByteArray) (w : World) : Calls Try.prog 33 #[.string x, .string y] w fun e w' => e = .returned (.bool (Op.bytesLess x.toList y.toList)) ∧ w' = w := by
  go_enter Try.func33, Try.ntmps33
  go_wp2_with (go_at_call 35; refine (nan35_any _ _).mono ?_; rintro e w' ⟨rfl, rfl⟩)
  go_ret
  exact ⟨rfl, rfl⟩

/-- Where x stands, or would stand, among the n rising strings. -/
structure FoundAt (f : Nat → ByteArray) (n : Nat) (x : ByteArray) (k : Nat) : Prop where
  le : k ≤ n
  lo : ∀ a, a < k → Op.bytesLess (f a).toList x.toList = true
  hi : ∀ a, k ≤ a → a < n → Op.bytesLess (f a).toList x.toList = false
/-- Is it there? -/
def isAt (f : Nat → ByteArray) (n : Nat) (x : ByteArray) (k : Nat) : Bool := decide (k < n) && ((f k).toList == x.toList)

/-- What the halving keeps. -/
structure Half (f : Nat → ByteArray) (n : Nat) (x : ByteArray) (lo hi : Nat) : Prop where
  lh : lo ≤ hi
  hn : hi ≤ n
  below : ∀ a, a < lo → Op.bytesLess (f a).toList x.toList = true
  above : ∀ a, hi ≤ a → a < n → Op.bytesLess (f a).toList x.toList = false
theorem Half.start {f : Nat → ByteArray} {n : Nat} {x : ByteArray} : Half f n x 0 n := ⟨Nat.zero_le _, Nat.le_refl _, fun a ha => absurd ha (by omega), fun a ha hb => absurd ha (by omega)⟩
theorem Half.up {f : Nat → ByteArray} {n : Nat} {x : ByteArray} {lo hi m : Nat} (h : Half f n x lo hi) (hf : Rises f n) (h2 : m < hi) (hm : Op.bytesLess (f m).toList x.toList = true) : Half f n x (m + 1) hi := by
  refine ⟨by omega, h.hn, fun a ha => ?_, h.above⟩
  by_cases e : a = m
  · subst e; exact hm
  · exact bl_trans _ _ _ (hf a m (by omega) (by have := h.hn; omega)) hm
theorem Half.down {f : Nat → ByteArray} {n : Nat} {x : ByteArray} {lo hi m : Nat} (h : Half f n x lo hi) (hf : Rises f n) (h1 : lo ≤ m) (h2 : m < hi) (hm : Op.bytesLess (f m).toList x.toList = false) : Half f n x lo m := by
  refine ⟨h1, by have := h.hn; omega, h.below, fun a ha han => ?_⟩
  by_cases e : a = m
  · subst e; exact hm
  · cases k : Op.bytesLess (f a).toList x.toList
    · rfl
    · have := bl_trans _ _ _ (hf m a (by omega) han) k
      rw [hm] at this; cases this
theorem Half.done {f : Nat → ByteArray} {n : Nat} {x : ByteArray} {k : Nat} (h : Half f n x k k) : FoundAt f n x k := ⟨h.hn, h.below, h.above⟩

/-- How BinarySearch ends. -/
def BsEnds (f : Nat → ByteArray) (n : Nat) (x : ByteArray) (e : Ending) : Prop := ∃ k, FoundAt f n x k ∧ e = .returned (.tuple #[.int .i64 (k : Int), .bool (isAt f n x k)])
theorem BsEnds.mk {f : Nat → ByteArray} {n : Nat} {x : ByteArray} {k : Nat} {b : Bool} (h : Half f n x k k) (hb : isAt f n x k = b) : BsEnds f n x (.returned (.tuple #[.int .i64 (k : Int), .bool b])) := ⟨k, h.done, by rw [hb]⟩

set_option maxHeartbeats 1000000 in
theorem bsearch_any (sv : Option Addr) (n c B : Nat) (f : Nat → ByteArray) (x : ByteArray) (w : World) (hn : n ≤ 1048576) (hS : Strs w B sv n f) (hf : Rises f n) :
    Calls Try.prog 31 #[.slice sv n c, .string x] w fun e w' => BsEnds f n x e ∧ w' = w := by
  have HS := show Hid (Strs w B sv n f) from hS
  have HF := show Hid (Rises f n) from hf
  clear hS hf
  go_enter Try.func31, Try.ntmps31
  go_wp2
  go_loopg [7, 8] n (fun k s7 s8 wr => ∃ lo hi : Nat, s7 = .int .i64 (lo : Int) ∧ s8 = .int .i64 (hi : Int) ∧ k = hi - lo ∧ Half f n x lo hi ∧ wr = w)
  case atStart => exact ⟨0, n, rfl, rfl, rfl, Half.start, rfl⟩
  case round =>
    obtain ⟨lo, hi, rfl, rfl, hk, hH, rfl⟩ := hrel
    have HK := show Hid (gk = hi - lo) from hk
    have HH := show Hid (Half f n x lo hi) from hH
    have hlh := hH.lh
    have hhn := hH.hn
    clear hk hH
    by_cases hlt : lo < hi
    · obtain ⟨b, off, rfl, _, hc⟩ := HS.out ((lo + hi) / 2) (by omega)
      have HM := keep (p := ((lo : Int) + (hi : Int)) / 2 = (((lo + hi) / 2 : Nat) : Int)) (by omega)
      cases hb : Op.bytesLess (f ((lo + hi) / 2)).toList x.toList
      · have HBL := show Hid (Op.bytesLess (f ((lo + hi) / 2)).toList x.toList = false) from hb
        go_wp2_with (go_at_call 33; refine (less_any _ _ _).mono ?_; rintro e w' ⟨rfl, rfl⟩)
        go_roundg ((lo + hi) / 2 - lo)
        case measure => rw [HK.out]; omega
        case rel => exact ⟨lo, (lo + hi) / 2, rfl, by rw [HM.out], rfl, HH.out.down HF.out (by omega) (by omega) HBL.out, rfl⟩
      · have HBL := show Hid (Op.bytesLess (f ((lo + hi) / 2)).toList x.toList = true) from hb
        go_wp2_with (go_at_call 33; refine (less_any _ _ _).mono ?_; rintro e w' ⟨rfl, rfl⟩)
        go_roundg (hi - ((lo + hi) / 2 + 1))
        case measure => rw [HK.out]; omega
        case rel => exact ⟨(lo + hi) / 2 + 1, hi, by rw [HM.out]; rfl, rfl, rfl, HH.out.up HF.out (by omega) HBL.out, rfl⟩
    · obtain rfl : lo = hi := by omega
      by_cases hl : lo < n
      · obtain ⟨b, off, rfl, _, hc⟩ := HS.out lo hl
        have hl' : (lo : Int) < (n : Int) := by omega
        cases he : ((f lo).toList == x.toList)
        · have HE := keep (p := isAt f n x lo = false) (by simp [isAt, hl, he])
          go_wp2_with (go_at_call 34; refine (nan34_any _ _).mono ?_; rintro e w' ⟨rfl, rfl⟩)
          go_ret2
          exact ⟨BsEnds.mk HH.out HE.out, rfl⟩
        · have HE := keep (p := isAt f n x lo = true) (by simp [isAt, hl, he])
          go_wp2
          go_ret2
          exact ⟨BsEnds.mk HH.out HE.out, rfl⟩
      · have HE := keep (p := isAt f n x lo = false) (by simp [isAt, hl])
        go_wp2
        go_ret2
        exact ⟨BsEnds.mk HH.out HE.out, rfl⟩
end Go.Proofs.Qxb6617169a
