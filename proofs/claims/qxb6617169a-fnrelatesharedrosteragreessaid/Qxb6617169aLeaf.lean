/-
  WALKS of the leaves: zzSorted, zzHas, zzEqStrings, names, ZZVector.
-/
import Derived.Test.Qxb6617169aRows
import Derived.Test.Qxb6617169aPlain
import Derived.WalkKit
import Derived.WalkSpells
import Derived.WalkLawsBesides
import Derived.WalkSmall
import Derived.Deep.QuietTactic
import Derived.BigQuiet
import Derived.Deep.LoopGhost
namespace Go.Proofs.Qxb6617169a
open Go.RowKit

/-- n strings from sv on, in blocks below B. -/
def Strs (w : World) (B : Nat) (sv : Option Addr) (n : Nat) (f : Nat → ByteArray) : Prop :=
  ∀ i, i < n → ∃ b off, sv = some ⟨b, off, none⟩ ∧ b < B ∧ w.cell? ⟨b, off + i, none⟩ = some (.string (f i))
/-- n counts from sv on, in blocks below B. -/
def Nums (w : World) (B : Nat) (sv : Option Addr) (n : Nat) (f : Nat → Int) : Prop :=
  ∀ i, i < n → ∃ b off, sv = some ⟨b, off, none⟩ ∧ b < B ∧ w.cell? ⟨b, off + i, none⟩ = some (.int .u64 (f i))

theorem Strs.later {w w' : World} {B : Nat} {sv : Option Addr} {n : Nat} {f : Nat → ByteArray} (h : Strs w B sv n f) (hb : Below B w w') : Strs w' B sv n f := by
  intro i hi
  obtain ⟨b, off, h1, h2, h3⟩ := h i hi
  exact ⟨b, off, h1, h2, (hb.cell h2).trans h3⟩
theorem Strs.mono {w : World} {B B' : Nat} {sv : Option Addr} {n : Nat} {f : Nat → ByteArray} (h : Strs w B sv n f) (hB : B ≤ B') : Strs w B' sv n f := by
  intro i hi
  obtain ⟨b, off, h1, h2, h3⟩ := h i hi
  exact ⟨b, off, h1, by omega, h3⟩
theorem Strs.cells {w : World} {B b off n : Nat} {f : Nat → ByteArray} (h : Strs w B (some ⟨b, off, none⟩) n f) (i : Nat) (hi : i < n) : w.cell? ⟨b, off + i, none⟩ = some (.string (f i)) := by
  obtain ⟨b', off', h1, _, h3⟩ := h i hi
  obtain ⟨rfl, rfl⟩ : b' = b ∧ off' = off := by simpa [eq_comm] using h1
  exact h3
theorem Strs.drew {w : World} {B : Nat} {sv : Option Addr} {n : Nat} {f : Nat → ByteArray} (h : Strs w B sv n f) (q : Nat) : Strs (w.drewN q) B sv n f := h
theorem Nums.later {w w' : World} {B : Nat} {sv : Option Addr} {n : Nat} {f : Nat → Int} (h : Nums w B sv n f) (hb : Below B w w') : Nums w' B sv n f := by
  intro i hi
  obtain ⟨b, off, h1, h2, h3⟩ := h i hi
  exact ⟨b, off, h1, h2, (hb.cell h2).trans h3⟩
theorem Nums.mono {w : World} {B B' : Nat} {sv : Option Addr} {n : Nat} {f : Nat → Int} (h : Nums w B sv n f) (hB : B ≤ B') : Nums w B' sv n f := by
  intro i hi
  obtain ⟨b, off, h1, h2, h3⟩ := h i hi
  exact ⟨b, off, h1, by omega, h3⟩
theorem Nums.cells {w : World} {B b off n : Nat} {f : Nat → Int} (h : Nums w B (some ⟨b, off, none⟩) n f) (i : Nat) (hi : i < n) : w.cell? ⟨b, off + i, none⟩ = some (.int .u64 (f i)) := by
  obtain ⟨b', off', h1, _, h3⟩ := h i hi
  obtain ⟨rfl, rfl⟩ : b' = b ∧ off' = off := by simpa [eq_comm] using h1
  exact h3

/-! ### zzSorted -/
theorem ret_bool {a b : Bool} (h : a = b) : Ending.returned (.bool a) = .returned (.bool b) := by rw [h]

set_option maxHeartbeats 400000 in
theorem sorted_any (sv : Option Addr) (n c B : Nat) (f : Nat → ByteArray) (w : World) (hn : n ≤ 1048576) (hS : Strs w B sv n f) :
    Calls Try.prog 9 #[.slice sv n c] w fun e w' => e = .returned (.bool (srt f n)) ∧ ∃ q, w' = w.drewN q := by
  have HS : Hid (Strs w B sv n f) := hS
  clear hS
  go_enter Try.func9, Try.ntmps9
  go_wp2
  go_loopg [3] (n - 1) (fun k i wr => ∃ j q : Nat, 1 ≤ j ∧ (j ≤ n ∨ j = 1) ∧ k = n - j ∧ i = .int .i64 (j : Int) ∧ srt f j = true ∧ wr = w.drewN q)
  case atStart => exact ⟨1, 0, by omega, by omega, rfl, rfl, rfl, rfl⟩
  case round =>
    obtain ⟨j, q, hj1, hj2, hk, rfl, hs, rfl⟩ := hrel
    have HK : Hid (gk = n - j) := hk
    clear hk
    by_cases hlt : j < n
    · obtain ⟨b, off, rfl, _, hc⟩ := HS.out j hlt
      have hc0 := HS.out.cells (j - 1) (by omega)
      obtain ⟨i, rfl⟩ : ∃ i, j = i + 1 := ⟨j - 1, by omega⟩
      rw [show i + 1 - 1 = i by omega] at hc0
      have hlt' : (i : Int) + 1 < (n : Int) := by omega
      have hlt0 : (i : Int) < (n : Int) := by omega
      cases hb : Op.bytesLess (f i).toList (f (i + 1)).toList
      · go_wp2
        go_quiet (fail)
        go_wp2
        go_ret
        exact ⟨ret_bool (srt_false hb hlt).symm, _, World.drewN_drewN _ _ _⟩
      · have HB : Hid (Op.bytesLess (f i).toList (f (i + 1)).toList = true) := hb
        go_wp2
        go_quiet (fail)
        go_wp2
        go_roundg (n - (i + 2))
        case measure => rw [HK.out]; omega
        case rel => exact ⟨i + 2, _, by omega, by omega, rfl, by go_num, by rw [srt, hs, HB.out]; rfl, rfl⟩
    · have HS2 : Hid (srt f j = true) := hs
      have HJ : Hid (n ≤ j) := by unfold Hid; omega
      clear hs
      go_wp2
      go_ret
      exact ⟨ret_bool (srt_le HS2.out HJ.out).symm, _, rfl⟩

/-! ### zzHas -/
/-- Is x among the first n? -/
def has (f : Nat → ByteArray) (x : ByteArray) : Nat → Bool
  | 0 => false
  | n + 1 => has f x n || ((f n).toList == x.toList)
theorem has_iff {f : Nat → ByteArray} {x : ByteArray} : ∀ {n : Nat}, has f x n = true ↔ ∃ i, i < n ∧ f i = x
  | 0 => by simp [has]
  | n + 1 => by
    rw [has, Bool.or_eq_true, has_iff, beq_iff_eq]
    constructor
    · rintro (⟨i, hi, e⟩ | e)
      · exact ⟨i, by omega, e⟩
      · exact ⟨n, by omega, toList_inj e⟩
    · rintro ⟨i, hi, e⟩
      by_cases h : i = n
      · subst h; exact .inr (by rw [e])
      · exact .inl ⟨i, by omega, e⟩
theorem has_yes {f : Nat → ByteArray} {x : ByteArray} {i n : Nat} (h : ((f i).toList == x.toList) = true) (hi : i < n) : has f x n = true :=
  has_iff.2 ⟨i, hi, toList_inj (by simpa using h)⟩

set_option maxHeartbeats 400000 in
theorem has_any (sv : Option Addr) (n c B : Nat) (f : Nat → ByteArray) (x : ByteArray) (w : World) (hn : n ≤ 1048576) (hS : Strs w B sv n f) :
    Calls Try.prog 22 #[.slice sv n c, .string x] w fun e w' => e = .returned (.bool (has f x n)) ∧ w' = w := by
  have HS : Hid (Strs w B sv n f) := hS
  clear hS
  go_enter Try.func22, Try.ntmps22
  go_wp2
  go_loop [5] (fun i => ∃ j : Nat, j ≤ n ∧ i = .int .i64 (j : Int) ∧ has f x j = false) (fun i => n - (intOf i).toNat)
  case atStart => exact ⟨0, by omega, rfl, rfl⟩
  case round =>
    obtain ⟨j, hj, rfl, hh⟩ := hrel
    have HH : Hid (has f x j = false) := hh
    clear hh
    by_cases hlt : j < n
    · obtain ⟨b, off, rfl, _, hc⟩ := HS.out j hlt
      have hlt' : (j : Int) < (n : Int) := by omega
      cases hb : ((f j).toList == x.toList)
      · have HB : Hid (((f j).toList == x.toList) = false) := hb
        go_wp2
        go_round
        case rel => exact ⟨j + 1, by omega, by go_num, by rw [has, HH.out, HB.out]; rfl⟩
        case measure => simp [intOf]; omega
      · have HB : Hid (((f j).toList == x.toList) = true) := hb
        go_wp2
        go_ret
        exact ⟨ret_bool (has_yes HB.out hlt).symm, rfl⟩
    · obtain rfl : j = n := by omega
      go_wp2
      go_ret
      exact ⟨ret_bool HH.out.symm, rfl⟩

/-! ### zzEqStrings -/
set_option maxHeartbeats 400000 in
/-- Two slices of the same strings. -/
theorem eqs_yes (sv sv' : Option Addr) (n c c' B B' : Nat) (f : Nat → ByteArray) (w : World) (hn : n ≤ 1048576) (hS : Strs w B sv n f) (hS' : Strs w B' sv' n f) :
    Calls Try.prog 21 #[.slice sv n c, .slice sv' n c'] w fun e w' => e = .returned (.bool true) ∧ ∃ q, w' = w.drewN q := by
  have HS : Hid (Strs w B sv n f) := hS
  have HS' : Hid (Strs w B' sv' n f) := hS'
  clear hS hS'
  go_enter Try.func21, Try.ntmps21
  go_wp2
  go_loopg [5] n (fun k i wr => ∃ j q : Nat, j ≤ n ∧ k = n - j ∧ i = .int .i64 (j : Int) ∧ wr = w.drewN q)
  case atStart => exact ⟨0, 0, by omega, rfl, rfl, rfl⟩
  case round =>
    obtain ⟨j, q, hj, hk, rfl, rfl⟩ := hrel
    have HK : Hid (gk = n - j) := hk
    clear hk
    by_cases hlt : j < n
    · obtain ⟨b, off, rfl, _, hc⟩ := HS.out j hlt
      obtain ⟨b', off', rfl, _, hc'⟩ := HS'.out j hlt
      have hlt' : (j : Int) < (n : Int) := by omega
      go_wp2
      go_quiet (fail)
      go_wp2
      go_roundg (n - (j + 1))
      case measure => rw [HK.out]; omega
      case rel => exact ⟨j + 1, _, by omega, rfl, by go_num, rfl⟩
    · go_wp2
      go_ret
      exact ⟨rfl, _, rfl⟩

/-! ### names, ZZVector -/
/-- A roster at block r that names the slice s. -/
def RosterAt (w : World) (r : Nat) (s : Value) : Prop := w.cell? ⟨r, 1, none⟩ = some s

theorem names_any (r : Nat) (sv : Option Addr) (n c : Nat) (sv' : Option Addr) (n' c' : Nat) (w : World) (hr : w.cell? ⟨r, 1, none⟩ = some (.slice sv n c)) :
    Calls Try.prog 25 #[.agg #[.pointer (some ⟨r, 0, none⟩), .slice sv' n' c']] w fun e w' => e = .returned (.slice sv n c) ∧ w' = w.alloc (.cells #[.pointer (some ⟨r, 0, none⟩), .slice sv' n' c'] 29) := by
  have hlt : r < w.heap.size := World.block_lt_of_cell? _ _ hr
  go_enter Try.func25, Try.ntmps25
  go_wp2
  go_ret
  exact ⟨rfl, rfl⟩
end Go.Proofs.Qxb6617169a
