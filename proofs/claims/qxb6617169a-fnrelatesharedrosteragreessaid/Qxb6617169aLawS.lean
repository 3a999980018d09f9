/-
  THE WALK of FnRelateSharedRosterAgrees.
-/
import Derived.Test.Qxb6617169aSame
namespace Go.Proofs.Qxb6617169a
open Go.RowKit

theorem strs_none (w : World) (B : Nat) : Strs w B none 0 (fun _ => ByteArray.empty) := fun i hi => absurd hi (by omega)

set_option maxRecDepth 100000 in
set_option maxHeartbeats 2000000 in
theorem lawS_main (sa : Option Addr) (na ca : Nat) (s1 : Option Addr) (c1 : Nat) (s2 : Option Addr) (c2 : Nat) (f : Nat → ByteArray) (x y : Nat → Int) (w : World)
    (hna : na ≤ 4096) (bX : ∀ i, i < na → 0 ≤ x i ∧ x i ≤ 18446744073709551615) (bY : ∀ i, i < na → 0 ≤ y i ∧ y i ≤ 18446744073709551615)
    (ha : Any0 sa na ca) (h1 : Any0 s1 na c1) (h2 : Any0 s2 na c2)
    (hA : Strs w w.heap.size sa na f) (hX : Nums w w.heap.size s1 na x) (hY : Nums w w.heap.size s2 na y) :
    Calls Try.prog 4 #[.slice sa na ca, .slice s1 na c1, .slice s2 na c2] w fun e w' => e = .returned (.bool true) ∧ Below w.heap.size w w' := by
  have HA := hid hA
  have HX := hid hX
  have HY := hid hY
  have HHa := hid ha
  have HH1 := hid h1
  have HH2 := hid h2
  clear hA hX hY ha h1 h2
  have HBX := hid bX
  have HBY := hid bY
  clear bX bY
  go_enter Try.func4, Try.ntmps4
  go_wp2_with fail
  refine (bytes15_any sa na ca s1 na c1 s2 na c2 w.heap.size f w HA.out).mono ?_
  rintro e w' ⟨⟨b0, rfl⟩, hw⟩
  obtain rfl : w = w' := hw.symm
  cases b0
  · go_wp2
    go_ret
    exact ⟨rfl, Below.refl _ _⟩
  go_wp2_with fail
  refine (over_any sa na ca none 0 0 _ _ w.heap.size w.heap.size f _ w (by omega) (by omega) HA.out (strs_none w _)).mono ?_
  rintro e w' ⟨⟨b1, rfl⟩, hw⟩
  obtain rfl : w = w' := hw.symm
  cases b1
  rotate_left 1
  · go_wp2
    go_ret
    exact ⟨rfl, Below.refl _ _⟩
  go_wp2_with fail
  refine (sorted_below sa na ca w.heap.size f w (by omega) HA.out).mono ?_
  rintro e w2 ⟨rfl, hb1⟩
  cases hsf : srt f na
  · go_wp2
    go_ret
    exact ⟨rfl, hb1⟩
  have HF := hid hsf
  have HB2 := hid hb1
  clear hb1 hsf
  have VA : Hid (HasStrs0 (.slice sa na ca) na f w2) := ⟨sa, ca, rfl, (HA.out.later HB2.out).mono HB2.out.size⟩
  have VX : Hid (HasNums0 (.slice s1 na c1) na x w2) := ⟨s1, c1, rfl, (HX.out.later HB2.out).mono HB2.out.size⟩
  have VY : Hid (HasNums0 (.slice s2 na c2) na y w2) := ⟨s2, c2, rfl, (HY.out.later HB2.out).mono HB2.out.size⟩
  clear HA HX HY
  go_upto_if 61 with fail
  go_cut [0] (fun v wx => HasStrs v na f wx ∧ Below w2.heap.size w2 wx)
  case first =>
    rcases HHa.out with ⟨e1, e2, e3⟩ | ⟨a, e1⟩
    · subst e1 e2 e3
      go_wp2
      go_meet
      case rel => exact ⟨HasStrs.nil _ _, Below.refl _ _⟩
    · subst e1
      obtain ⟨wa, wb, hmk, hcp, hbel, hlt, hT⟩ := clone_strs w2 (some a) na ca f hna VA.out.get
      have HBEL := hid hbel
      have HT := hid hT
      clear hbel hT
      go_wp2
      go_meet
      case rel => exact ⟨⟨_, na, rfl, Nat.le_refl _, .inr ⟨_, _, rfl⟩, HT.out⟩, HBEL.out⟩
  case rest =>
  obtain ⟨hv0, hbc⟩ := hcut
  obtain ⟨w3, rfl⟩ : ∃ w3 : World, w3 = wc := ⟨_, rfl⟩
  have VAx := hid hv0
  have VXx := hid (VX.out.later hbc)
  have VYx := hid (VY.out.later hbc)
  have HB3 : Hid (Below w.heap.size w w3) := HB2.out.trans (hbc.mono HB2.out.size)
  clear VA VX VY HB2 hv0 hbc HHa
  obtain ⟨qVA, kVA, rfl, hkVA, hhVA, hsVA⟩ := VAx.out
  have HVA := hid hhVA
  clear hsVA hhVA
  have VA := VAx
  clear VAx
  have VX := VXx
  clear VXx
  have VY := VYx
  clear VYx
  go_upto_if 70 with fail
  go_cut [1] (fun v wx => HasNums v na x wx ∧ Below w3.heap.size w3 wx)
  case first =>
    rcases HH1.out with ⟨e1, e2, e3⟩ | ⟨a, e1⟩
    · subst e1 e2 e3
      go_wp2
      go_meet
      case rel => exact ⟨HasNums.nil _ _, Below.refl _ _⟩
    · subst e1
      obtain ⟨wa, wb, hmk, hcp, hbel, hlt, hT⟩ := clone_nums w3 (some a) na c1 x hna VX.out.get
      have HBEL := hid hbel
      have HT := hid hT
      clear hbel hT
      go_wp2
      go_meet
      case rel => exact ⟨⟨_, na, rfl, Nat.le_refl _, .inr ⟨_, _, rfl⟩, HT.out⟩, HBEL.out⟩
  case rest =>
  obtain ⟨hv0, hbc⟩ := hcut
  obtain ⟨w4, rfl⟩ : ∃ w4 : World, w4 = wc := ⟨_, rfl⟩
  have VXx := hid hv0
  have VAx := hid (VA.out.later hbc)
  have VYx := hid (VY.out.later hbc)
  have HB4 : Hid (Below w.heap.size w w4) := HB3.out.trans (hbc.mono HB3.out.size)
  clear VX VA VY HB3 hv0 hbc HH1
  obtain ⟨qVX, kVX, rfl, hkVX, hhVX, hsVX⟩ := VXx.out
  have HVX := hid hhVX
  clear hsVX hhVX
  have VX := VXx
  clear VXx
  have VA := VAx
  clear VAx
  have VY := VYx
  clear VYx
  go_upto_if 79 with fail
  go_cut [2] (fun v wx => HasNums v na y wx ∧ Below w4.heap.size w4 wx)
  case first =>
    rcases HH2.out with ⟨e1, e2, e3⟩ | ⟨a, e1⟩
    · subst e1 e2 e3
      go_wp2
      go_meet
      case rel => exact ⟨HasNums.nil _ _, Below.refl _ _⟩
    · subst e1
      obtain ⟨wa, wb, hmk, hcp, hbel, hlt, hT⟩ := clone_nums w4 (some a) na c2 y hna VY.out.get
      have HBEL := hid hbel
      have HT := hid hT
      clear hbel hT
      go_wp2
      go_meet
      case rel => exact ⟨⟨_, na, rfl, Nat.le_refl _, .inr ⟨_, _, rfl⟩, HT.out⟩, HBEL.out⟩
  case rest =>
  obtain ⟨hv0, hbc⟩ := hcut
  obtain ⟨w6, rfl⟩ : ∃ w6 : World, w6 = wc := ⟨_, rfl⟩
  have VYx := hid hv0
  have VAx := hid (VA.out.later hbc)
  have VXx := hid (VX.out.later hbc)
  have HB6 : Hid (Below w.heap.size w w6) := HB4.out.trans (hbc.mono HB4.out.size)
  clear VY VA VX HB4 hv0 hbc HH2
  obtain ⟨qVY, kVY, rfl, hkVY, hhVY, hsVY⟩ := VYx.out
  have HVY := hid hhVY
  clear hsVY hhVY
  have VY := VYx
  clear VYx
  have VA := VAx
  clear VAx
  have VX := VXx
  clear VXx
  go_wp2_with fail
  refine (pair_any qVA na kVA qVX na kVX qVY na kVY w6).mono ?_
  rintro e w7 ⟨rfl, hb7, hr7⟩
  generalize hr : w6.heap.size + 1 + 1 = r at *
  clear hr
  have hp7 := box2_below w7 (.pointer (some ⟨r, 0, none⟩)) (.slice qVX na kVX) (.pointer (some ⟨r, 0, none⟩)) (.slice qVY na kVY)
  have hb67 : Below w6.heap.size w6 (box2 w7 (.pointer (some ⟨r, 0, none⟩)) (.slice qVX na kVX) (.pointer (some ⟨r, 0, none⟩)) (.slice qVY na kVY)) := hb7.trans (hp7.mono hb7.size)
  have Q1 := hid (box2_first w7 (.pointer (some ⟨r, 0, none⟩)) (.slice qVX na kVX) (.pointer (some ⟨r, 0, none⟩)) (.slice qVY na kVY))
  have Q2 := hid (box2_second w7 (.pointer (some ⟨r, 0, none⟩)) (.slice qVX na kVX) (.pointer (some ⟨r, 0, none⟩)) (.slice qVY na kVY))
  have WA := hid (VA.out.later hb67)
  have WX := hid (VX.out.later hb67)
  have WY := hid (VY.out.later hb67)
  have B8 := hid (HB6.out.trans (hb67.mono HB6.out.size))
  clear hp7 hr7 hb67 hb7 VA VX VY HB6
  go_wp2_with fail
  refine (vector2_any qVA na kVA qVX na kVX (box2 w7 (.pointer (some ⟨r, 0, none⟩)) (.slice qVX na kVX) (.pointer (some ⟨r, 0, none⟩)) (.slice qVY na kVY))).mono ?_
  rintro e w9 ⟨rfl, hb9, hr9⟩
  generalize w7.heap.size = b1 at *
  generalize box2 w7 (.pointer (some ⟨r, 0, none⟩)) (.slice qVX na kVX) (.pointer (some ⟨r, 0, none⟩)) (.slice qVY na kVY) = w8 at *
  generalize hr2 : w8.heap.size + 1 = r2 at *
  clear hr2
  have hp9 := put1_below w9 (.pointer (some ⟨r2, 0, none⟩)) (.slice qVX na kVX)
  have hb89 : Below w8.heap.size w8 (put1 w9 (.pointer (some ⟨r2, 0, none⟩)) (.slice qVX na kVX)) := hb9.trans (hp9.mono hb9.size)
  have R2 := hid (hr9.later hp9)
  have X1 := hid (Q1.out.later hb89)
  have X2 := hid (Q2.out.later hb89)
  have X3 := hid (put1_boxed w9 (.pointer (some ⟨r2, 0, none⟩)) (.slice qVX na kVX))
  have VA := hid (WA.out.later hb89)
  have VX := hid (WX.out.later hb89)
  have VY := hid (WY.out.later hb89)
  have B9 := hid (B8.out.trans (hb89.mono B8.out.size))
  clear hp9 hr9 hb89 hb9 WA WX WY B8 Q1 Q2
  go_wp2_with fail
  refine (vector2_any qVA na kVA qVY na kVY (put1 w9 (.pointer (some ⟨r2, 0, none⟩)) (.slice qVX na kVX))).mono ?_
  rintro e w10 ⟨rfl, hb10, hr10⟩
  generalize w9.heap.size = b2 at *
  generalize put1 w9 (.pointer (some ⟨r2, 0, none⟩)) (.slice qVX na kVX) = w8' at *
  have hne : r2 ≠ w8'.heap.size + 1 := by have := R2.out.lt; omega
  generalize w8'.heap.size + 1 = r3 at *
  have hp10 := put1_below w10 (.pointer (some ⟨r3, 0, none⟩)) (.slice qVY na kVY)
  have hb11 : Below w8'.heap.size w8' (put1 w10 (.pointer (some ⟨r3, 0, none⟩)) (.slice qVY na kVY)) := hb10.trans (hp10.mono hb10.size)
  have P2 := hid (R2.out.later hb11)
  have P3 := hid (hr10.later hp10)
  have Y1 := hid (X1.out.later hb11)
  have Y2 := hid (X2.out.later hb11)
  have Y3 := hid (X3.out.later hb11)
  have Y4 := hid (put1_boxed w10 (.pointer (some ⟨r3, 0, none⟩)) (.slice qVY na kVY))
  have WA := hid (VA.out.later hb11)
  have WX := hid (VX.out.later hb11)
  have WY := hid (VY.out.later hb11)
  have B11 := hid (B9.out.trans (hb11.mono B9.out.size))
  have HNE := hid hne
  clear hp10 hr10 hb11 hb10 VA VX VY B9 X1 X2 X3 R2 hne
  go_wp2_with fail
  refine (lessMore_sorted qVA na kVA qVX kVX qVA na kVA qVY kVY f f x y _ (put1 w10 (.pointer (some ⟨r3, 0, none⟩)) (.slice qVY na kVY)) (by omega) (by omega) WA.out.get WX.out.get WA.out.get WY.out.get (rises_of_srt HF.out) (rises_of_srt HF.out) (fun a h => (HBX.out a h).1) (fun a h => (HBY.out a h).1)).mono ?_
  rintro e wq ⟨rfl, hwq⟩
  subst hwq
  obtain ⟨p, HP⟩ : ∃ p, Hid (abv f x f y na na = p) := ⟨_, rfl⟩
  obtain ⟨q, HQ⟩ : ∃ q, Hid (abv f y f x na na = q) := ⟨_, rfl⟩
  rw [HP.out, HQ.out]
  have x1 := Y1.out.c0
  have x2 := Y1.out.c1
  have x3 := Y2.out.c0
  have x4 := Y2.out.c1
  generalize w10.heap.size = b3 at *
  generalize put1 w10 (.pointer (some ⟨r3, 0, none⟩)) (.slice qVY na kVY) = wA at *
  go_wp2_with fail
  refine (relationOf_any _ _ _).mono ?_
  rintro e wq ⟨rfl, hwq⟩
  obtain rfl : wA = wq := hwq.symm
  go_wp2_with fail
  refine (relate_same r na qVX kVX qVY kVY f x y wA hna hkVY WX.out.get WY.out.get (rises_of_srt HF.out)).mono ?_
  rintro e wB ⟨rfl, hbB⟩
  rw [HP.out, HQ.out]
  have Z1 := hid (Y1.out.later hbB)
  have Z2 := hid (Y2.out.later hbB)
  have Z3 := hid (Y3.out.later hbB)
  have Z4 := hid (Y4.out.later hbB)
  have O2 := hid (P2.out.later hbB)
  have O3 := hid (P3.out.later hbB)
  have VA := hid (WA.out.later hbB)
  have VX := hid (WX.out.later hbB)
  have VY := hid (WY.out.later hbB)
  have BB := hid (B11.out.trans (hbB.mono B11.out.size))
  clear hbB x1 x2 x3 x4 Y1 Y2 Y3 Y4 P2 P3 WA WX WY B11
  have x1 := Z1.out.c0
  have x2 := Z1.out.c1
  have x3 := Z2.out.c0
  have x4 := Z2.out.c1
  go_wp2_with fail
  refine (relate_same r na qVY kVY qVX kVX f y x wB hna hkVX VY.out.get VX.out.get (rises_of_srt HF.out)).mono ?_
  rintro e wC ⟨rfl, hbC⟩
  rw [HP.out, HQ.out]
  have Y3 := hid (Z3.out.later hbC)
  have Y4 := hid (Z4.out.later hbC)
  have P2 := hid (O2.out.later hbC)
  have P3 := hid (O3.out.later hbC)
  have WA := hid (VA.out.later hbC)
  have WX := hid (VX.out.later hbC)
  have WY := hid (VY.out.later hbC)
  have BC := hid (BB.out.trans (hbC.mono BB.out.size))
  clear hbC x1 x2 x3 x4 Z1 Z2 Z3 Z4 O2 O3 VA VX VY BB
  have x1 := Y3.out.c0
  have x2 := Y3.out.c1
  have x3 := Y4.out.c0
  have x4 := Y4.out.c1
  go_wp2_with fail
  refine (mirror_any _ _ _).mono ?_
  rintro e wq ⟨rfl, hwq⟩
  obtain rfl : wC = wq := hwq.symm
  go_wp2_with fail
  refine (relate_two r2 r3 qVA na kVA qVX kVX qVA na kVA qVY kVY f f x y wC HNE.out hna hna P2.out P3.out hkVA hkVX hkVA hkVY WA.out.get WX.out.get WA.out.get WY.out.get (rises_of_srt HF.out) (rises_of_srt HF.out) (fun a h => (HBX.out a h).1) (fun a h => (HBY.out a h).1)).mono ?_
  rintro e wD ⟨rfl, hbD⟩
  rw [HP.out, HQ.out]
  have BD := hid (BC.out.trans (hbD.mono BC.out.size))
  clear hbD x1 x2 x3 x4
  go_wp2
  go_ret
  exact ⟨rfl, BD.out⟩

set_option maxRecDepth 100000 in
set_option maxHeartbeats 1000000 in
/-- Too long: true at once. -/
theorem lawS_long (sa : Option Addr) (na ca : Nat) (s1 : Option Addr) (n1 c1 : Nat) (s2 : Option Addr) (n2 c2 : Nat) (f : Nat → ByteArray) (w : World)
    (hl : ¬ (na ≤ 4096 ∧ n1 ≤ 4096 ∧ n2 ≤ 4096)) (hA : Strs w w.heap.size sa na f) :
    Calls Try.prog 4 #[.slice sa na ca, .slice s1 n1 c1, .slice s2 n2 c2] w fun e w' => e = .returned (.bool true) ∧ w' = w := by
  have HA := hid hA
  clear hA
  rcases (by omega : 4096 < na ∨ (na ≤ 4096 ∧ 4096 < n1) ∨ (na ≤ 4096 ∧ n1 ≤ 4096 ∧ 4096 < n2)) with q1 | ⟨q1, q2⟩ | ⟨q1, q2, q3⟩
  all_goals
    clear hl
    go_enter Try.func4, Try.ntmps4
    go_wp2_with fail
    refine (bytes15_any sa na ca s1 n1 c1 s2 n2 c2 w.heap.size f w HA.out).mono ?_
    rintro e w' ⟨⟨b0, rfl⟩, rfl⟩
    cases b0
    all_goals
      go_wp2
      go_ret
      exact ⟨rfl, rfl⟩

set_option maxRecDepth 100000 in
set_option maxHeartbeats 1000000 in
/-- Not one count each: true at once. -/
theorem lawS_odd (sa : Option Addr) (na ca : Nat) (s1 : Option Addr) (n1 c1 : Nat) (s2 : Option Addr) (n2 c2 : Nat) (f : Nat → ByteArray) (w : World)
    (hna : na ≤ 4096) (hn1 : n1 ≤ 4096) (hn2 : n2 ≤ 4096) (hl : ¬ (n1 = na ∧ n2 = na)) (hA : Strs w w.heap.size sa na f) :
    Calls Try.prog 4 #[.slice sa na ca, .slice s1 n1 c1, .slice s2 n2 c2] w fun e w' => e = .returned (.bool true) ∧ w' = w := by
  have HA := hid hA
  clear hA
  have hq : ((n1 : Int) != (na : Int)) = true ∨ (((n1 : Int) != (na : Int)) = false ∧ ((n2 : Int) != (na : Int)) = true) := by
    by_cases e : n1 = na
    · exact .inr ⟨by simp [e], by simp; omega⟩
    · exact .inl (by simp; omega)
  clear hl
  rcases hq with q1 | ⟨q1, q2⟩
  all_goals
    go_enter Try.func4, Try.ntmps4
    go_wp2_with fail
    refine (bytes15_any sa na ca s1 n1 c1 s2 n2 c2 w.heap.size f w HA.out).mono ?_
    rintro e w' ⟨⟨b0, rfl⟩, hw⟩
    obtain rfl : w = w' := hw.symm
    cases b0
    · go_wp2
      go_ret
      exact ⟨rfl, rfl⟩
    go_wp2_with fail
    refine (over_any sa na ca none 0 0 _ _ w.heap.size w.heap.size f _ w (by omega) (by omega) HA.out (strs_none w _)).mono ?_
    rintro e w' ⟨⟨b1, rfl⟩, hw⟩
    obtain rfl : w = w' := hw.symm
    cases b1
    all_goals
      go_wp2
      go_ret
      exact ⟨rfl, rfl⟩

end Go.Proofs.Qxb6617169a
