/-
  THE WALK of FnRelateMatchesCountModel.
-/
import Derived.Test.Qxb6617169aRel
namespace Go.Proofs.Qxb6617169a
open Go.RowKit

set_option maxRecDepth 100000 in
set_option maxHeartbeats 2000000 in
theorem lawR_main (sa : Option Addr) (na ca : Nat) (s1 : Option Addr) (c1 : Nat) (sb : Option Addr) (nb cb : Nat) (s2 : Option Addr) (c2 : Nat) (f g : Nat → ByteArray) (x y : Nat → Int) (w : World)
    (hna : na ≤ 4096) (hnb : nb ≤ 4096) (bX : ∀ i, i < na → 0 ≤ x i ∧ x i ≤ 18446744073709551615) (bY : ∀ i, i < nb → 0 ≤ y i ∧ y i ≤ 18446744073709551615)
    (ha : Any0 sa na ca) (h1 : Any0 s1 na c1) (hb : Any0 sb nb cb) (h2 : Any0 s2 nb c2)
    (hA : Strs w w.heap.size sa na f) (hX : Nums w w.heap.size s1 na x) (hB : Strs w w.heap.size sb nb g) (hY : Nums w w.heap.size s2 nb y) :
    Calls Try.prog 3 #[.slice sa na ca, .slice s1 na c1, .slice sb nb cb, .slice s2 nb c2] w fun e w' => e = .returned (.bool true) ∧ Below w.heap.size w w' := by
  have HA := hid hA
  have HX := hid hX
  have HB := hid hB
  have HY := hid hY
  have HHa := hid ha
  have HH1 := hid h1
  have HHb := hid hb
  have HH2 := hid h2
  clear hA hX hB hY ha h1 hb h2
  have HBX := hid bX
  have HBY := hid bY
  clear bX bY
  go_enter Try.func3, Try.ntmps3
  go_wp2_with fail
  refine (bytes7_any sa na ca s1 na c1 sb nb cb s2 nb c2 w.heap.size w.heap.size f g w HA.out HB.out).mono ?_
  rintro e w' ⟨⟨b0, rfl⟩, hw⟩
  obtain rfl : w = w' := hw.symm
  cases b0
  · go_wp2
    go_ret
    exact ⟨rfl, Below.refl _ _⟩
  go_wp2_with fail
  refine (over_any sa na ca sb nb cb _ _ w.heap.size w.heap.size f g w (by omega) (by omega) HA.out HB.out).mono ?_
  rintro e w' ⟨⟨b1, rfl⟩, hw⟩
  obtain rfl : w = w' := hw.symm
  cases b1
  rotate_left 1
  · go_wp2
    go_ret
    exact ⟨rfl, Below.refl _ _⟩
  go_wp2_with fail
  refine (sorted_below sa na ca w.heap.size f w (by omega) HA.out).mono ?_
  rintro e w1 ⟨rfl, hb1⟩
  cases hsf : srt f na
  · go_wp2
    go_ret
    exact ⟨rfl, hb1⟩
  have HF := hid hsf
  have HB1 := hid hb1
  clear hb1 hsf
  go_wp2_with fail
  refine (sorted_below sb nb cb w.heap.size g w1 (by omega) (HB.out.later HB1.out)).mono ?_
  rintro e w2 ⟨rfl, hb2⟩
  have HB2 : Hid (Below w.heap.size w w2) := HB1.out.trans (hb2.mono HB1.out.size)
  clear hb2
  cases hsg : srt g nb
  · go_wp2
    go_ret
    exact ⟨rfl, HB2.out⟩
  have HG := hid hsg
  clear hsg HB1
  have VA : Hid (HasStrs0 (.slice sa na ca) na f w2) := ⟨sa, ca, rfl, (HA.out.later HB2.out).mono HB2.out.size⟩
  have VX : Hid (HasNums0 (.slice s1 na c1) na x w2) := ⟨s1, c1, rfl, (HX.out.later HB2.out).mono HB2.out.size⟩
  have VB : Hid (HasStrs0 (.slice sb nb cb) nb g w2) := ⟨sb, cb, rfl, (HB.out.later HB2.out).mono HB2.out.size⟩
  have VY : Hid (HasNums0 (.slice s2 nb c2) nb y w2) := ⟨s2, c2, rfl, (HY.out.later HB2.out).mono HB2.out.size⟩
  clear HA HX HB HY
  go_upto_if 77 with fail
  go_cut [0] (fun v wx => HasStrs v na f wx ∧ Below w2.heap.size w2 wx)
  case first =>
    rcases HHa.out with ⟨e1, e2, e3⟩ | ⟨a, e1⟩
    · subst e1 e2 e3
      go_wp2
      go_meet
      case rel => exact ⟨HasStrs.nil _ _, Below.refl _ _⟩
    · subst e1
      obtain ⟨wa, wb, hmk, hcp, hbel, hlt, hT⟩ := clone_strs w2 (some a) na ca f hna VA.out.get
      have HBEL := hid hbel
      have HT := hid hT
      clear hbel hT
      go_wp2
      go_meet
      case rel => exact ⟨⟨_, na, rfl, Nat.le_refl _, .inr ⟨_, _, rfl⟩, HT.out⟩, HBEL.out⟩
  case rest =>
  obtain ⟨hv0, hbc⟩ := hcut
  obtain ⟨w3, rfl⟩ : ∃ w3 : World, w3 = wc := ⟨_, rfl⟩
  have VAx := hid hv0
  have VXx := hid (VX.out.later hbc)
  have VBx := hid (VB.out.later hbc)
  have VYx := hid (VY.out.later hbc)
  have HB3 : Hid (Below w.heap.size w w3) := HB2.out.trans (hbc.mono HB2.out.size)
  clear VA VX VB VY HB2 hv0 hbc HHa
  obtain ⟨qVA, kVA, rfl, hkVA, hhVA, hsVA⟩ := VAx.out
  have HVA := hid hhVA
  clear hsVA hhVA
  have VA := VAx
  clear VAx
  have VX := VXx
  clear VXx
  have VB := VBx
  clear VBx
  have VY := VYx
  clear VYx
  go_upto_if 86 with fail
  go_cut [1] (fun v wx => HasNums v na x wx ∧ Below w3.heap.size w3 wx)
  case first =>
    rcases HH1.out with ⟨e1, e2, e3⟩ | ⟨a, e1⟩
    · subst e1 e2 e3
      go_wp2
      go_meet
      case rel => exact ⟨HasNums.nil _ _, Below.refl _ _⟩
    · subst e1
      obtain ⟨wa, wb, hmk, hcp, hbel, hlt, hT⟩ := clone_nums w3 (some a) na c1 x hna VX.out.get
      have HBEL := hid hbel
      have HT := hid hT
      clear hbel hT
      go_wp2
      go_meet
      case rel => exact ⟨⟨_, na, rfl, Nat.le_refl _, .inr ⟨_, _, rfl⟩, HT.out⟩, HBEL.out⟩
  case rest =>
  obtain ⟨hv0, hbc⟩ := hcut
  obtain ⟨w4, rfl⟩ : ∃ w4 : World, w4 = wc := ⟨_, rfl⟩
  have VXx := hid hv0
  have VAx := hid (VA.out.later hbc)
  have VBx := hid (VB.out.later hbc)
  have VYx := hid (VY.out.later hbc)
  have HB4 : Hid (Below w.heap.size w w4) := HB3.out.trans (hbc.mono HB3.out.size)
  clear VX VA VB VY HB3 hv0 hbc HH1
  obtain ⟨qVX, kVX, rfl, hkVX, hhVX, hsVX⟩ := VXx.out
  have HVX := hid hhVX
  clear hsVX hhVX
  have VX := VXx
  clear VXx
  have VA := VAx
  clear VAx
  have VB := VBx
  clear VBx
  have VY := VYx
  clear VYx
  go_upto_if 95 with fail
  go_cut [2] (fun v wx => HasStrs v nb g wx ∧ Below w4.heap.size w4 wx)
  case first =>
    rcases HHb.out with ⟨e1, e2, e3⟩ | ⟨a, e1⟩
    · subst e1 e2 e3
      go_wp2
      go_meet
      case rel => exact ⟨HasStrs.nil _ _, Below.refl _ _⟩
    · subst e1
      obtain ⟨wa, wb, hmk, hcp, hbel, hlt, hT⟩ := clone_strs w4 (some a) nb cb g hnb VB.out.get
      have HBEL := hid hbel
      have HT := hid hT
      clear hbel hT
      go_wp2
      go_meet
      case rel => exact ⟨⟨_, nb, rfl, Nat.le_refl _, .inr ⟨_, _, rfl⟩, HT.out⟩, HBEL.out⟩
  case rest =>
  obtain ⟨hv0, hbc⟩ := hcut
  obtain ⟨w5, rfl⟩ : ∃ w5 : World, w5 = wc := ⟨_, rfl⟩
  have VBx := hid hv0
  have VAx := hid (VA.out.later hbc)
  have VXx := hid (VX.out.later hbc)
  have VYx := hid (VY.out.later hbc)
  have HB5 : Hid (Below w.heap.size w w5) := HB4.out.trans (hbc.mono HB4.out.size)
  clear VB VA VX VY HB4 hv0 hbc HHb
  obtain ⟨qVB, kVB, rfl, hkVB, hhVB, hsVB⟩ := VBx.out
  have HVB := hid hhVB
  clear hsVB hhVB
  have VB := VBx
  clear VBx
  have VA := VAx
  clear VAx
  have VX := VXx
  clear VXx
  have VY := VYx
  clear VYx
  go_upto_if 104 with fail
  go_cut [3] (fun v wx => HasNums v nb y wx ∧ Below w5.heap.size w5 wx)
  case first =>
    rcases HH2.out with ⟨e1, e2, e3⟩ | ⟨a, e1⟩
    · subst e1 e2 e3
      go_wp2
      go_meet
      case rel => exact ⟨HasNums.nil _ _, Below.refl _ _⟩
    · subst e1
      obtain ⟨wa, wb, hmk, hcp, hbel, hlt, hT⟩ := clone_nums w5 (some a) nb c2 y hnb VY.out.get
      have HBEL := hid hbel
      have HT := hid hT
      clear hbel hT
      go_wp2
      go_meet
      case rel => exact ⟨⟨_, nb, rfl, Nat.le_refl _, .inr ⟨_, _, rfl⟩, HT.out⟩, HBEL.out⟩
  case rest =>
  obtain ⟨hv0, hbc⟩ := hcut
  obtain ⟨w6, rfl⟩ : ∃ w6 : World, w6 = wc := ⟨_, rfl⟩
  have VYx := hid hv0
  have VAx := hid (VA.out.later hbc)
  have VXx := hid (VX.out.later hbc)
  have VBx := hid (VB.out.later hbc)
  have HB6 : Hid (Below w.heap.size w w6) := HB5.out.trans (hbc.mono HB5.out.size)
  clear VY VA VX VB HB5 hv0 hbc HH2
  obtain ⟨qVY, kVY, rfl, hkVY, hhVY, hsVY⟩ := VYx.out
  have HVY := hid hhVY
  clear hsVY hhVY
  have VY := VYx
  clear VYx
  have VA := VAx
  clear VAx
  have VX := VXx
  clear VXx
  have VB := VBx
  clear VBx
  go_wp2_with fail
  refine (vector2_any qVA na kVA qVX na kVX w6).mono ?_
  rintro e w7 ⟨rfl, hb7, hr7⟩
  have hp7 := put1_below w7 (.pointer (some ⟨w6.heap.size + 1, 0, none⟩)) (.slice qVX na kVX)
  have hq7 := put1_boxed w7 (.pointer (some ⟨w6.heap.size + 1, 0, none⟩)) (.slice qVX na kVX)
  have R1 := hid (hr7.later hp7)
  have hb67 : Below w6.heap.size w6 (put1 w7 (.pointer (some ⟨w6.heap.size + 1, 0, none⟩)) (.slice qVX na kVX)) := hb7.trans (hp7.mono hb7.size)
  have WA := hid (VA.out.later hb67)
  have WX := hid (VX.out.later hb67)
  have WB := hid (VB.out.later hb67)
  have WY := hid (VY.out.later hb67)
  have B8 := hid (HB6.out.trans (hb67.mono HB6.out.size))
  have Q1 := hid hq7
  clear hp7 hq7 hr7 hb67 hb7 VA VX VB VY HB6
  generalize hr1 : w6.heap.size + 1 = r1 at *
  clear hr1
  go_wp2_with fail
  refine (vector2_any qVB nb kVB qVY nb kVY (put1 w7 (.pointer (some ⟨r1, 0, none⟩)) (.slice qVX na kVX))).mono ?_
  rintro e w9 ⟨rfl, hb9, hr9⟩
  have hne : r1 ≠ (put1 w7 (.pointer (some ⟨r1, 0, none⟩)) (.slice qVX na kVX)).heap.size + 1 := by have := R1.out.lt; omega
  generalize (put1 w7 (.pointer (some ⟨r1, 0, none⟩)) (.slice qVX na kVX)).heap.size + 1 = r2 at *
  have hp9 := put1_below w9 (.pointer (some ⟨r2, 0, none⟩)) (.slice qVY nb kVY)
  have hq9 := put1_boxed w9 (.pointer (some ⟨r2, 0, none⟩)) (.slice qVY nb kVY)
  have hb10 : Below (put1 w7 (.pointer (some ⟨r1, 0, none⟩)) (.slice qVX na kVX)).heap.size (put1 w7 (.pointer (some ⟨r1, 0, none⟩)) (.slice qVX na kVX)) (put1 w9 (.pointer (some ⟨r2, 0, none⟩)) (.slice qVY nb kVY)) := hb9.trans (hp9.mono hb9.size)
  have y1 := (Q1.out.later hb9).c0
  have y2 := (Q1.out.later hb9).c1
  have hb1 : w7.heap.size < w9.heap.size := World.block_lt_of_cell? _ _ y1
  have P2 := hid (hr9.later hp9)
  have P1 := hid (R1.out.later hb10)
  have X1 := hid (Q1.out.later hb10)
  have X2 := hid hq9
  have VA := hid (WA.out.later hb10)
  have VX := hid (WX.out.later hb10)
  have VB := hid (WB.out.later hb10)
  have VY := hid (WY.out.later hb10)
  have B10 := hid (B8.out.trans (hb10.mono B8.out.size))
  have HNE := hid hne
  clear hp9 hq9 hb10 hr9 hb9 WA WX WB WY B8 Q1 R1 hne
  generalize w7.heap.size = b1 at *
  go_wp2_with fail
  refine (lessMore_sorted qVA na kVA qVX kVX qVB nb kVB qVY kVY f g x y _ (put1 w9 (.pointer (some ⟨r2, 0, none⟩)) (.slice qVY nb kVY)) (by omega) (by omega) VA.out.get VX.out.get VB.out.get VY.out.get (rises_of_srt HF.out) (rises_of_srt HG.out) (fun a h => (HBX.out a h).1) (fun a h => (HBY.out a h).1)).mono ?_
  rintro e w10 ⟨rfl, hw10⟩
  subst hw10
  have x1 := X1.out.c0
  have x2 := X1.out.c1
  have x3 := X2.out.c0
  have x4 := X2.out.c1
  generalize w9.heap.size = b2 at *
  generalize put1 w9 (.pointer (some ⟨r2, 0, none⟩)) (.slice qVY nb kVY) = wA at *
  clear y1 y2 hb1
  go_wp2_with fail
  refine (relationOf_any _ _ _).mono ?_
  rintro e w10 ⟨rfl, hw10⟩
  obtain rfl : wA = w10 := hw10.symm
  go_wp2_with fail
  refine (relate_two r1 r2 qVA na kVA qVX kVX qVB nb kVB qVY kVY f g x y wA HNE.out hna hnb P1.out P2.out hkVA hkVX hkVB hkVY VA.out.get VX.out.get VB.out.get VY.out.get (rises_of_srt HF.out) (rises_of_srt HG.out) (fun a h => (HBX.out a h).1) (fun a h => (HBY.out a h).1)).mono ?_
  rintro e w11 ⟨rfl, hb11⟩
  have z1 := (X1.out.later hb11).c0
  have z2 := (X1.out.later hb11).c1
  have z3 := (X2.out.later hb11).c0
  have z4 := (X2.out.later hb11).c1
  have P1' := hid (P1.out.later hb11)
  have P2' := hid (P2.out.later hb11)
  have WA := hid (VA.out.later hb11)
  have WX := hid (VX.out.later hb11)
  have WB := hid (VB.out.later hb11)
  have WY := hid (VY.out.later hb11)
  have B11 := hid (B10.out.trans (hb11.mono B10.out.size))
  have HR := hid (relate_two r2 r1 qVB nb kVB qVY kVY qVA na kVA qVX kVX g f y x w11 (fun e => HNE.out e.symm) hnb hna P2'.out P1'.out hkVB hkVY hkVA hkVX WB.out.get WY.out.get WA.out.get WX.out.get (rises_of_srt HG.out) (rises_of_srt HF.out) (fun a h => (HBY.out a h).1) (fun a h => (HBX.out a h).1))
  clear hb11 P1 P2 P1' P2' VA VX VB VY WA WX WB WY B10 X1 X2 x1 x2 x3 x4
  generalize abv f x g y nb na = p at *
  generalize abv g y f x na nb = q at *
  go_wp2_with fail
  refine HR.out.mono ?_
  rintro e w12 ⟨rfl, hb12⟩
  have B12 := hid (B11.out.trans (hb12.mono B11.out.size))
  clear hb12 HR B11 z1 z2 z3 z4
  go_wp2_with fail
  refine (mirror_any _ _ _).mono ?_
  rintro e w13 ⟨rfl, rfl⟩
  go_wp2
  go_ret
  exact ⟨rfl, B12.out⟩

set_option maxRecDepth 100000 in
set_option maxHeartbeats 1000000 in
/-- Too long: true at once. -/
theorem lawR_long (sa : Option Addr) (na ca : Nat) (s1 : Option Addr) (n1 c1 : Nat) (sb : Option Addr) (nb cb : Nat) (s2 : Option Addr) (n2 c2 : Nat) (f g : Nat → ByteArray) (w : World)
    (hl : ¬ (na ≤ 4096 ∧ n1 ≤ 4096 ∧ nb ≤ 4096 ∧ n2 ≤ 4096)) (hA : Strs w w.heap.size sa na f) (hB : Strs w w.heap.size sb nb g) :
    Calls Try.prog 3 #[.slice sa na ca, .slice s1 n1 c1, .slice sb nb cb, .slice s2 n2 c2] w fun e w' => e = .returned (.bool true) ∧ w' = w := by
  have HA := hid hA
  have HB := hid hB
  clear hA hB
  rcases (by omega : 4096 < na ∨ (na ≤ 4096 ∧ 4096 < n1) ∨ (na ≤ 4096 ∧ n1 ≤ 4096 ∧ 4096 < nb) ∨ (na ≤ 4096 ∧ n1 ≤ 4096 ∧ nb ≤ 4096 ∧ 4096 < n2)) with q1 | ⟨q1, q2⟩ | ⟨q1, q2, q3⟩ | ⟨q1, q2, q3, q4⟩
  all_goals
    clear hl
    go_enter Try.func3, Try.ntmps3
    go_wp2_with fail
    refine (bytes7_any sa na ca s1 n1 c1 sb nb cb s2 n2 c2 w.heap.size w.heap.size f g w HA.out HB.out).mono ?_
    rintro e w' ⟨⟨b0, rfl⟩, rfl⟩
    cases b0
    all_goals
      go_wp2
      go_ret
      exact ⟨rfl, rfl⟩

set_option maxRecDepth 100000 in
set_option maxHeartbeats 1000000 in
/-- Not one count each: true at once. -/
theorem lawR_odd (sa : Option Addr) (na ca : Nat) (s1 : Option Addr) (n1 c1 : Nat) (sb : Option Addr) (nb cb : Nat) (s2 : Option Addr) (n2 c2 : Nat) (f g : Nat → ByteArray) (w : World)
    (hna : na ≤ 4096) (hn1 : n1 ≤ 4096) (hnb : nb ≤ 4096) (hn2 : n2 ≤ 4096) (hl : ¬ (n1 = na ∧ n2 = nb)) (hA : Strs w w.heap.size sa na f) (hB : Strs w w.heap.size sb nb g) :
    Calls Try.prog 3 #[.slice sa na ca, .slice s1 n1 c1, .slice sb nb cb, .slice s2 n2 c2] w fun e w' => e = .returned (.bool true) ∧ w' = w := by
  have HA := hid hA
  have HB := hid hB
  clear hA hB
  have hq : ((n1 : Int) != (na : Int)) = true ∨ (((n1 : Int) != (na : Int)) = false ∧ ((n2 : Int) != (nb : Int)) = true) := by
    by_cases e : n1 = na
    · exact .inr ⟨by simp [e], by simp; omega⟩
    · exact .inl (by simp; omega)
  clear hl
  rcases hq with q1 | ⟨q1, q2⟩
  all_goals
    go_enter Try.func3, Try.ntmps3
    go_wp2_with fail
    refine (bytes7_any sa na ca s1 n1 c1 sb nb cb s2 n2 c2 w.heap.size w.heap.size f g w HA.out HB.out).mono ?_
    rintro e w' ⟨⟨b0, rfl⟩, hw⟩
    obtain rfl : w = w' := hw.symm
    cases b0
    · go_wp2
      go_ret
      exact ⟨rfl, rfl⟩
    go_wp2_with fail
    refine (over_any sa na ca sb nb cb _ _ w.heap.size w.heap.size f g w (by omega) (by omega) HA.out HB.out).mono ?_
    rintro e w' ⟨⟨b1, rfl⟩, hw⟩
    obtain rfl : w = w' := hw.symm
    cases b1
    all_goals
      go_wp2
      go_ret
      exact ⟨rfl, rfl⟩

end Go.Proofs.Qxb6617169a
