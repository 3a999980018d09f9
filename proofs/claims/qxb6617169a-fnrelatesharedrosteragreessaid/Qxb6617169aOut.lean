/-
  WALK: outrank.
-/
import Derived.Test.Qxb6617169aOutPlain
namespace Go.Proofs.Qxb6617169a
open Go.RowKit

theorem Nums.drew {w : World} {B : Nat} {sv : Option Addr} {n : Nat} {f : Nat → Int} (h : Nums w B sv n f) (q : Nat) : Nums (w.drewN q) B sv n f := h
theorem run_tail (sv : Option Addr) (n c i : Nat) (h : i ≤ n) (wx : World) :
    (Instr.slice 23 (.slice sv n c) (some (.int .i64 (i : Int))) none none).run Try.prog wx = .ok (.slice (cutFrom sv i c) (n - i) (c - i)) wx := by
  rw [run_slice_l wx 23 sv n c Try.underlying23 .i64 (i : Int) (by omega) (by omega), size23]
  simp [Result.andThen, sliced, cutFrom]

set_option maxHeartbeats 2000000 in
theorem outrank_any (sa : Option Addr) (n ca : Nat) (s1 : Option Addr) (c1 : Nat) (sb : Option Addr) (m cb : Nat) (s2 : Option Addr) (c2 : Nat) (f g : Nat → ByteArray) (x y : Nat → Int) (B : Nat) (w : World) (hn : n ≤ 1048576) (hm : m ≤ 1048576) (hmb : m ≤ cb) (hm2 : m ≤ c2)
    (hA : Strs w B sa n f) (hX : Nums w B s1 n x) (hB : Strs w B sb m g) (hY : Nums w B s2 m y) (hf : Rises f n) (hg : Rises g m) (hx : ∀ a, a < n → 0 ≤ x a) :
    Calls Try.prog 26 #[.slice sa n ca, .slice s1 n c1, .slice sb m cb, .slice s2 m c2] w fun e w' =>
      e = .returned (.tuple #[.bool (abv f x g y m n), .bool (abv g y f x n m)]) ∧ ∃ q, w' = w.drewN q := by
  have HA := keep hA
  have HX := keep hX
  have HB := keep hB
  have HY := keep hY
  have HF := keep hf
  have HG := keep hg
  have HXX := keep hx
  clear hA hX hB hY hf hg hx
  go_enter Try.func26, Try.ntmps26
  go_wp2
  go_loopg [8, 9, 10, 17] n (fun gk a b jj t wr => ∃ (i j : Nat) (A C : Bool) (q : Nat), gk = n - i ∧ a = .bool A ∧ b = .bool C ∧ jj = .int .i64 (j : Int) ∧ t = .int .i64 (i : Int) ∧ OutSt f x n g y m i j A C ∧ wr = w.drewN q)
  case atStart => exact ⟨0, 0, false, false, 0, rfl, rfl, rfl, rfl, rfl, OutSt.start, rfl⟩
  case round =>
    obtain ⟨i, j, A, C, q, hk, rfl, rfl, rfl, rfl, hO, rfl⟩ := hrel
    have HK := keep hk
    have HO := keep hO
    have hjm := hO.hj
    have hi' := hO.hi
    clear hk hO
    by_cases hin : i < n
    · obtain ⟨bf, of, ef, _, hcf⟩ := HA.out i hin
      obtain ⟨bx, ox, ex, _, hcx⟩ := HX.out i hin
      subst ef ex
      have hin' : (i : Int) < (n : Int) := by omega
      have HLO := keep (p := ∀ a, a < j → Op.bytesLess (g a).toList (f i).toList = true) (fun a ha => HO.out.lo a ha i (Nat.le_refl _) hin)
      cases A
      · cases C
        · go_wp2_with fail
          refine (leap_any sb m cb B g (f i) j _ hm hmb hjm (HB.out.drew q) HG.out HLO.out).mono ?_
          rintro e w' ⟨⟨k, hFA, hjk, rfl⟩, rfl⟩
          have HFA := keep hFA
          have hkm := hFA.le
          clear hFA
          have hsl := run_part 23 Try.underlying23 size23 s2 m c2 j k hjk (by omega)
          have HPT := keep (HY.out.part (lo := j) (hi := k) hkm hm2)
          obtain ⟨sp, hsp⟩ : ∃ sp, cutFrom s2 j c2 = sp := ⟨_, rfl⟩
          rw [hsp] at hsl HPT
          clear hsp
          go_wp2_with fail
          refine (contains_any sp (k - j) (c2 - j) B (fun t => y (j + t)) _ (by omega) (HPT.out.drew q)).mono ?_
          rintro e w' ⟨rfl, rfl⟩
          clear hsl HPT
          cases hp : pos (fun t => y (j + t)) (k - j)
          · have HC := keep (p := (false || pos (fun t => y (j + t)) (k - j)) = false) (by rw [hp]; rfl)
            clear hp
            cases hat : isAt g m (f i) k
            · have HAT := keep hat
              clear hat
              go_wp2
              go_roundg (n - (i + 1))
              case measure => rw [HK.out]; omega
              case rel => exact ⟨i + 1, k, _, _, _, rfl, rfl, rfl, rfl, by go_num, HO.out.miss HF.out HG.out HXX.out hin HFA.out hjk HAT.out (by simp) (by rw [HC.out]), rfl⟩
            · have HAT := keep hat
              have HKM := keep (isAt_eq hat).1
              clear hat
              obtain ⟨bt, ot, et, _, hck⟩ := HY.out k HKM.out
              subst et
              have hkm' : (k : Int) < (m : Int) := by have := HKM.out; omega
              go_wp2
              go_quiet (fail)
              go_wp2
              go_quiet (fail)
              go_wp2
              go_roundg (n - (i + 1))
              case measure => rw [HK.out]; omega
              case rel => exact ⟨i + 1, k + 1, _, _, _, rfl, rfl, rfl, by go_num, by go_num, HO.out.hit HF.out HG.out hin HFA.out hjk HAT.out (by simp) (by rw [HC.out]; simp), rfl⟩
          · have HC := keep (p := (false || pos (fun t => y (j + t)) (k - j)) = true) (by rw [hp]; rfl)
            clear hp
            cases hat : isAt g m (f i) k
            · have HAT := keep hat
              clear hat
              go_wp2
              go_roundg (n - (i + 1))
              case measure => rw [HK.out]; omega
              case rel => exact ⟨i + 1, k, _, _, _, rfl, rfl, rfl, rfl, by go_num, HO.out.miss HF.out HG.out HXX.out hin HFA.out hjk HAT.out (by simp) (by rw [HC.out]), rfl⟩
            · have HAT := keep hat
              have HKM := keep (isAt_eq hat).1
              clear hat
              obtain ⟨bt, ot, et, _, hck⟩ := HY.out k HKM.out
              subst et
              have hkm' : (k : Int) < (m : Int) := by have := HKM.out; omega
              go_wp2
              go_quiet (fail)
              go_wp2
              go_quiet (fail)
              go_wp2
              go_roundg (n - (i + 1))
              case measure => rw [HK.out]; omega
              case rel => exact ⟨i + 1, k + 1, _, _, _, rfl, rfl, rfl, by go_num, by go_num, HO.out.hit HF.out HG.out hin HFA.out hjk HAT.out (by simp) (by rw [HC.out]; simp), rfl⟩
        · go_wp2_with fail
          refine (leap_any sb m cb B g (f i) j _ hm hmb hjm (HB.out.drew q) HG.out HLO.out).mono ?_
          rintro e w' ⟨⟨k, hFA, hjk, rfl⟩, rfl⟩
          have HFA := keep hFA
          have hkm := hFA.le
          clear hFA
          have HC := keep (p := (true || pos (fun t => y (j + t)) (k - j)) = true) (by simp)
          cases hat : isAt g m (f i) k
          · have HAT := keep hat
            clear hat
            go_wp2
            go_roundg (n - (i + 1))
            case measure => rw [HK.out]; omega
            case rel => exact ⟨i + 1, k, _, _, _, rfl, rfl, rfl, rfl, by go_num, HO.out.miss HF.out HG.out HXX.out hin HFA.out hjk HAT.out (by simp) (by rw [HC.out]), rfl⟩
          · have HAT := keep hat
            have HKM := keep (isAt_eq hat).1
            clear hat
            obtain ⟨bt, ot, et, _, hck⟩ := HY.out k HKM.out
            subst et
            have hkm' : (k : Int) < (m : Int) := by have := HKM.out; omega
            go_wp2
            go_quiet (fail)
            go_wp2
            go_quiet (fail)
            go_wp2
            go_roundg (n - (i + 1))
            case measure => rw [HK.out]; omega
            case rel => exact ⟨i + 1, k + 1, _, _, _, rfl, rfl, rfl, by go_num, by go_num, HO.out.hit HF.out HG.out hin HFA.out hjk HAT.out (by simp) (by rw [HC.out]; simp), rfl⟩
      · cases C
        · go_wp2_with fail
          refine (leap_any sb m cb B g (f i) j _ hm hmb hjm (HB.out.drew q) HG.out HLO.out).mono ?_
          rintro e w' ⟨⟨k, hFA, hjk, rfl⟩, rfl⟩
          have HFA := keep hFA
          have hkm := hFA.le
          clear hFA
          have hsl := run_part 23 Try.underlying23 size23 s2 m c2 j k hjk (by omega)
          have HPT := keep (HY.out.part (lo := j) (hi := k) hkm hm2)
          obtain ⟨sp, hsp⟩ : ∃ sp, cutFrom s2 j c2 = sp := ⟨_, rfl⟩
          rw [hsp] at hsl HPT
          clear hsp
          go_wp2_with fail
          refine (contains_any sp (k - j) (c2 - j) B (fun t => y (j + t)) _ (by omega) (HPT.out.drew q)).mono ?_
          rintro e w' ⟨rfl, rfl⟩
          clear hsl HPT
          cases hp : pos (fun t => y (j + t)) (k - j)
          · have HC := keep (p := (false || pos (fun t => y (j + t)) (k - j)) = false) (by rw [hp]; rfl)
            clear hp
            cases hat : isAt g m (f i) k
            · have HAT := keep hat
              clear hat
              go_wp2
              go_roundg (n - (i + 1))
              case measure => rw [HK.out]; omega
              case rel => exact ⟨i + 1, k, _, _, _, rfl, rfl, rfl, rfl, by go_num, HO.out.miss HF.out HG.out HXX.out hin HFA.out hjk HAT.out (by simp) (by rw [HC.out]), rfl⟩
            · have HAT := keep hat
              have HKM := keep (isAt_eq hat).1
              clear hat
              obtain ⟨bt, ot, et, _, hck⟩ := HY.out k HKM.out
              subst et
              have hkm' : (k : Int) < (m : Int) := by have := HKM.out; omega
              go_wp2
              go_quiet (fail)
              go_wp2
              go_quiet (fail)
              go_wp2
              go_roundg (n - (i + 1))
              case measure => rw [HK.out]; omega
              case rel => exact ⟨i + 1, k + 1, _, _, _, rfl, rfl, rfl, by go_num, by go_num, HO.out.hit HF.out HG.out hin HFA.out hjk HAT.out (by simp) (by rw [HC.out]; simp), rfl⟩
          · have HC := keep (p := (false || pos (fun t => y (j + t)) (k - j)) = true) (by rw [hp]; rfl)
            clear hp
            cases hat : isAt g m (f i) k
            · have HAT := keep hat
              clear hat
              go_wp2
              go_roundg (n - (i + 1))
              case measure => rw [HK.out]; omega
              case rel => exact ⟨i + 1, k, _, _, _, rfl, rfl, rfl, rfl, by go_num, HO.out.miss HF.out HG.out HXX.out hin HFA.out hjk HAT.out (by simp) (by rw [HC.out]), rfl⟩
            · have HAT := keep hat
              have HKM := keep (isAt_eq hat).1
              clear hat
              obtain ⟨bt, ot, et, _, hck⟩ := HY.out k HKM.out
              subst et
              have hkm' : (k : Int) < (m : Int) := by have := HKM.out; omega
              go_wp2
              go_quiet (fail)
              go_wp2
              go_quiet (fail)
              go_wp2
              go_roundg (n - (i + 1))
              case measure => rw [HK.out]; omega
              case rel => exact ⟨i + 1, k + 1, _, _, _, rfl, rfl, rfl, by go_num, by go_num, HO.out.hit HF.out HG.out hin HFA.out hjk HAT.out (by simp) (by rw [HC.out]; simp), rfl⟩
        · have HE := keep (HO.out.early HF.out HG.out HXX.out)
          go_wp2
          go_ret2
          exact ⟨ret2_bool HE.out.1.symm HE.out.2.symm, _, rfl⟩
    · obtain rfl : i = n := by omega
      have HD := keep (HO.out.done HF.out HG.out HXX.out)
      cases C
      · have hsl := run_tail s2 m c2 j hjm
        have HPT := keep (HY.out.part (lo := j) (hi := m) (Nat.le_refl _) hm2)
        obtain ⟨sp, hsp⟩ : ∃ sp, cutFrom s2 j c2 = sp := ⟨_, rfl⟩
        rw [hsp] at hsl HPT
        clear hsp
        go_wp2_with fail
        refine (contains_any sp (m - j) (c2 - j) B (fun t => y (j + t)) _ (by omega) (HPT.out.drew q)).mono ?_
        rintro e w' ⟨rfl, rfl⟩
        clear hsl HPT
        go_wp2
        go_ret2
        exact ⟨ret2_bool HD.out.1 (by rw [← HD.out.2]; simp), _, rfl⟩
      · go_wp2
        go_ret2
        exact ⟨ret2_bool HD.out.1 (by rw [← HD.out.2]; simp), _, rfl⟩
end Go.Proofs.Qxb6617169a
