/-
  WALK: leap.
-/
import Derived.Test.Qxb6617169aSearch
namespace Go.Proofs.Qxb6617169a
open Go.RowKit

theorem addr_plus (b off i : Nat) : (⟨b, off, none⟩ : Addr).add i = ⟨b, off + i, none⟩ := by unfold Addr.add; split <;> simp_all
/-- Where 'x[lo:hi]' begins. -/
def cutFrom (sv : Option Addr) (i cap : Nat) : Option Addr := if cap = i then sv else sv.map (·.add i)
theorem run_part (t : TypeId) (ht : Try.prog.underlying t = some (.slice (Try.prog.elem t))) (hs : ∀ wx, (sizeOf (Try.prog.elem t)).run Try.prog wx = .ok 1 wx) (sv : Option Addr) (n c lo hi : Nat) (h1 : lo ≤ hi) (h2 : hi ≤ c) (wx : World) :
    (Instr.slice t (.slice sv n c) (some (.int .i64 (lo : Int))) (some (.int .i64 (hi : Int))) none).run Try.prog wx = .ok (.slice (cutFrom sv lo c) (hi - lo) (c - lo)) wx := by
  rw [run_slice_lh wx t sv n c ht .i64 .i64 (lo : Int) (hi : Int) (by omega) (by omega) (by omega), hs]
  simp [Result.andThen, sliced, cutFrom]
theorem size22 (wx : World) : (sizeOf (Try.prog.elem 22)).run Try.prog wx = .ok 1 wx := by kernel_rfl
theorem size23 (wx : World) : (sizeOf (Try.prog.elem 23)).run Try.prog wx = .ok 1 wx := by kernel_rfl
theorem Strs.part {w : World} {B : Nat} {sv : Option Addr} {n c lo hi : Nat} {f : Nat → ByteArray} (h : Strs w B sv n f) (h2 : hi ≤ n) (h3 : n ≤ c) : Strs w B (cutFrom sv lo c) (hi - lo) (fun i => f (lo + i)) := by
  intro i hi'
  obtain ⟨b, off, e, hb, hc⟩ := h (lo + i) (by omega)
  subst e
  exact ⟨b, off + lo, by simp [cutFrom, show ¬ c = lo by omega, addr_plus], hb, by rw [Nat.add_assoc]; exact hc⟩
theorem Nums.part {w : World} {B : Nat} {sv : Option Addr} {n c lo hi : Nat} {f : Nat → Int} (h : Nums w B sv n f) (h2 : hi ≤ n) (h3 : n ≤ c) : Nums w B (cutFrom sv lo c) (hi - lo) (fun i => f (lo + i)) := by
  intro i hi'
  obtain ⟨b, off, e, hb, hc⟩ := h (lo + i) (by omega)
  subst e
  exact ⟨b, off + lo, by simp [cutFrom, show ¬ c = lo by omega, addr_plus], hb, by rw [Nat.add_assoc]; exact hc⟩

/-- What the doubling steps keep. -/
structure Step (g : Nat → ByteArray) (m j : Nat) (x : ByteArray) (lo hi : Nat) : Prop where
  jl : j ≤ lo
  lh : lo ≤ hi
  lm : lo ≤ m
  hm : hi ≤ 2 * m + 1
  below : ∀ a, a < lo → Op.bytesLess (g a).toList x.toList = true
theorem Step.start {g : Nat → ByteArray} {m j : Nat} {x : ByteArray} (hj : j ≤ m) (h : ∀ a, a < j → Op.bytesLess (g a).toList x.toList = true) : Step g m j x j j := ⟨Nat.le_refl _, Nat.le_refl _, hj, by omega, h⟩
theorem Step.next {g : Nat → ByteArray} {m j : Nat} {x : ByteArray} {lo hi : Nat} (h : Step g m j x lo hi) (hg : Rises g m) (hh : hi < m) (hb : Op.bytesLess (g hi).toList x.toList = true) : Step g m j x (hi + 1) (hi + (hi - j + 1)) := by
  have := h.jl; have := h.lh
  refine ⟨by omega, by omega, by omega, by omega, fun a ha => ?_⟩
  by_cases e : a = hi
  · subst e; exact hb
  · exact bl_trans _ _ _ (hg a hi (by omega) hh) hb
/-- The search in the last step answers for the whole. -/
theorem Step.found {g : Nat → ByteArray} {m j : Nat} {x : ByteArray} {lo hi k top : Nat} (h : Step g m j x lo hi) (hg : Rises g m) (ht : (hi < m ∧ top = hi + 1 ∧ Op.bytesLess (g hi).toList x.toList = false) ∨ (m ≤ hi ∧ top = m)) (hk : FoundAt (fun a => g (lo + a)) (top - lo) x k) :
    FoundAt g m x (lo + k) ∧ isAt (fun a => g (lo + a)) (top - lo) x k = isAt g m x (lo + k) ∧ j ≤ lo + k := by
  have hlm := h.lm; have hlh := h.lh; have hjl := h.jl; have hkl := hk.le
  have htm : top ≤ m := by omega
  have hup : ∀ a, lo + k ≤ a → a < m → Op.bytesLess (g a).toList x.toList = false := by
    intro a ha ham
    by_cases hat : a < top
    · have := hk.hi (a - lo) (by omega) (by omega)
      simpa [show lo + (a - lo) = a by omega] using this
    · rcases ht with ⟨h1, h2, h3⟩ | ⟨h1, h2⟩
      · cases q : Op.bytesLess (g a).toList x.toList
        · rfl
        · have := bl_trans _ _ _ (hg hi a (by omega) ham) q
          rw [h3] at this; cases this
      · omega
  refine ⟨⟨by omega, fun a ha => ?_, hup⟩, ?_, by omega⟩
  · by_cases hal : a < lo
    · exact h.below a hal
    · have := hk.lo (a - lo) (by omega)
      simpa [show lo + (a - lo) = a by omega] using this
  · by_cases hkt : k < top - lo
    · simp [isAt, hkt, show lo + k < m by omega]
    · rcases ht with ⟨h1, h2, h3⟩ | ⟨h1, h2⟩
      · have := hk.lo (hi - lo) (by omega)
        simp only [show lo + (hi - lo) = hi by omega] at this
        rw [h3] at this; cases this
      · simp [isAt, hkt, show ¬ lo + k < m by omega]

/-- How leap ends. -/
def LeapEnds (g : Nat → ByteArray) (m j : Nat) (x : ByteArray) (e : Ending) : Prop := ∃ k, FoundAt g m x k ∧ j ≤ k ∧ e = .returned (.tuple #[.int .i64 (k : Int), .bool (isAt g m x k)])
theorem LeapEnds.mk {g : Nat → ByteArray} {m j : Nat} {x : ByteArray} {k : Nat} {v : Int} {b : Bool} (h : FoundAt g m x k) (hj : j ≤ k) (hv : v = (k : Int)) (hb : b = isAt g m x k) : LeapEnds g m j x (.returned (.tuple #[.int .i64 v, .bool b])) := ⟨k, h, hj, by rw [hv, hb]⟩

set_option maxHeartbeats 1000000 in
theorem leap_any (sv : Option Addr) (m c B : Nat) (g : Nat → ByteArray) (x : ByteArray) (j : Nat) (w : World) (hm : m ≤ 1048576) (hmc : m ≤ c) (hj : j ≤ m) (hS : Strs w B sv m g) (hg : Rises g m) (hlow : ∀ a, a < j → Op.bytesLess (g a).toList x.toList = true) :
    Calls Try.prog 28 #[.slice sv m c, .string x, .int .i64 (j : Int)] w fun e w' => LeapEnds g m j x e ∧ w' = w := by
  have HS := keep hS
  have HG := keep hg
  have HSt := keep (Step.start hj hlow)
  clear hS hg hlow
  go_enter Try.func28, Try.ntmps28
  go_wp2
  go_loopg [8, 9, 10] (2 * m + 1 - j) (fun k l h s wr => ∃ lo hi : Nat, l = .int .i64 (lo : Int) ∧ h = .int .i64 (hi : Int) ∧ s = .int .i64 ((hi - j + 1 : Nat) : Int) ∧ k = 2 * m + 1 - hi ∧ Step g m j x lo hi ∧ wr = w)
  case atStart => exact ⟨j, j, rfl, rfl, by simp, rfl, HSt.out, rfl⟩
  case round =>
    clear HSt
    obtain ⟨lo, hi, rfl, rfl, rfl, hk, hSt, rfl⟩ := hrel
    have HK := keep hk
    have HSt := keep hSt
    have h1 := hSt.jl
    have h2 := hSt.lh
    have h3 := hSt.lm
    have h4 := hSt.hm
    clear hk hSt
    by_cases hlt : hi < m
    · obtain ⟨b, off, rfl, _, hc⟩ := HS.out hi hlt
      have hlt' : (hi : Int) < (m : Int) := by omega
      cases hb : Op.bytesLess (g hi).toList x.toList
      · have HBL := keep hb
        have hP := HS.out.part (lo := lo) (hi := hi + 1) (by omega) hmc
        rw [show cutFrom (some ⟨b, off, none⟩) lo c = some ⟨b, off + lo, none⟩ by simp [cutFrom, show ¬ c = lo by omega, addr_plus]] at hP
        have HP := keep hP
        have HR := keep (p := Rises (fun a => g (lo + a)) (hi + 1 - lo)) (fun a b' hab hb' => HG.out _ _ (by omega) (by omega))
        clear hP
        go_wp2_with fail
        refine (bsearch_any (some ⟨b, off + lo, none⟩) (hi + 1 - lo) (c - lo) B (fun a => g (lo + a)) x wr (by omega) HP.out HR.out).mono ?_
        rintro e w' ⟨⟨k, hk, rfl⟩, rfl⟩
        obtain ⟨f1, f2, f3⟩ := HSt.out.found HG.out (.inl ⟨hlt, rfl, HBL.out⟩) hk
        have hkm : lo + k ≤ m := f1.le
        have F1 := keep f1
        have F2 := keep f2
        clear hk f1 f2
        generalize isAt (fun a => g (lo + a)) (hi + 1 - lo) x k = bb at *
        go_wp2
        go_ret2
        exact ⟨LeapEnds.mk F1.out f3 (by omega) F2.out, rfl⟩
      · have HBL := keep hb
        obtain ⟨st, HST⟩ : ∃ st : Nat, Hid (st = hi - j + 1) := ⟨_, rfl⟩
        rw [← HST.out]
        have hst : st ≤ 2097153 := by have := HST.out; omega
        go_wp2
        go_roundg (2 * m + 1 - (hi + st))
        case measure => rw [HK.out]; have := HST.out; omega
        case rel =>
          refine ⟨hi + 1, hi + st, by go_num, by go_num, ?_, rfl, ?_, rfl⟩
          · rw [show ((hi + st - j + 1 : Nat) : Int) = (st : Int) * 2 by have := HST.out; omega]
          · rw [HST.out]; exact HSt.out.next HG.out hlt HBL.out
    · have hsl := run_part 22 Try.underlying22 size22 sv m c lo m (by omega) hmc
      have HP := keep (HS.out.part (lo := lo) (hi := m) (Nat.le_refl _) hmc)
      have HR := keep (p := Rises (fun a => g (lo + a)) (m - lo)) (fun a b' hab hb' => HG.out _ _ (by omega) (by omega))
      generalize cutFrom sv lo c = sv' at *
      go_wp2_with fail
      refine (bsearch_any sv' (m - lo) (c - lo) B (fun a => g (lo + a)) x wr (by omega) HP.out HR.out).mono ?_
      rintro e w' ⟨⟨k, hk, rfl⟩, rfl⟩
      obtain ⟨f1, f2, f3⟩ := HSt.out.found HG.out (.inr ⟨by omega, rfl⟩) hk
      have hkm : lo + k ≤ m := f1.le
      have F1 := keep f1
      have F2 := keep f2
      clear hk f1 f2
      generalize isAt (fun a => g (lo + a)) (m - lo) x k = bb at *
      go_wp2
      go_ret2
      exact ⟨LeapEnds.mk F1.out f3 (by omega) F2.out, rfl⟩
end Go.Proofs.Qxb6617169a
