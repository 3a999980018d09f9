/-
  THE WALK of FnOutrankMatchesCountModel.
-/
import Derived.Test.Qxb6617169aKit
import Derived.Test.Qxb6617169aOut
namespace Go.Proofs.Qxb6617169a
open Go.RowKit

/-- outrank, its world forgotten. -/
theorem outrank_below (sa : Option Addr) (n ca : Nat) (s1 : Option Addr) (c1 : Nat) (sb : Option Addr) (m cb : Nat) (s2 : Option Addr) (c2 : Nat) (f g : Nat → ByteArray) (x y : Nat → Int) (B : Nat) (w : World) (hn : n ≤ 1048576) (hm : m ≤ 1048576) (hmb : m ≤ cb) (hm2 : m ≤ c2)
    (hA : Strs w B sa n f) (hX : Nums w B s1 n x) (hB : Strs w B sb m g) (hY : Nums w B s2 m y) (hf : Rises f n) (hg : Rises g m) (hx : ∀ a, a < n → 0 ≤ x a) :
    Calls Try.prog 26 #[.slice sa n ca, .slice s1 n c1, .slice sb m cb, .slice s2 m c2] w fun e w' =>
      e = .returned (.tuple #[.bool (abv f x g y m n), .bool (abv g y f x n m)]) ∧ Below w.heap.size w w' := by
  refine (outrank_any sa n ca s1 c1 sb m cb s2 c2 f g x y B w hn hm hmb hm2 hA hX hB hY hf hg hx).mono ?_
  rintro e w' ⟨rfl, q, rfl⟩
  exact ⟨rfl, below_drewN (Below.refl _ _) q⟩
theorem zzoutrank_below (sa : Option Addr) (n ca : Nat) (s1 : Option Addr) (c1 : Nat) (sb : Option Addr) (m cb : Nat) (s2 : Option Addr) (c2 : Nat) (f g : Nat → ByteArray) (x y : Nat → Int) (B : Nat) (w : World) (hn : n ≤ 1048576) (hm : m ≤ 1048576) (hmb : m ≤ cb) (hm2 : m ≤ c2)
    (hA : Strs w B sa n f) (hX : Nums w B s1 n x) (hB : Strs w B sb m g) (hY : Nums w B s2 m y) (hf : Rises f n) (hg : Rises g m) (hx : ∀ a, a < n → 0 ≤ x a) :
    Calls Try.prog 18 #[.slice sa n ca, .slice s1 n c1, .slice sb m cb, .slice s2 m c2] w fun e w' =>
      e = .returned (.tuple #[.bool (abv f x g y m n), .bool (abv g y f x n m)]) ∧ Below w.heap.size w w' := by
  have HC := hid (outrank_below sa n ca s1 c1 sb m cb s2 c2 f g x y B w hn hm hmb hm2 hA hX hB hY hf hg hx)
  clear hA hX hB hY hf hg hx
  go_enter Try.func18, Try.ntmps18
  go_wp2_with fail
  refine HC.out.mono ?_
  rintro e w' ⟨rfl, hb⟩
  have HB := hid hb
  clear hb HC
  go_wp2
  go_ret2
  exact ⟨rfl, HB.out⟩
/-- The model, at two sorted readings. -/
theorem lessMore_sorted (sa : Option Addr) (n ca : Nat) (s1 : Option Addr) (c1 : Nat) (sb : Option Addr) (m cb : Nat) (s2 : Option Addr) (c2 : Nat) (f g : Nat → ByteArray) (x y : Nat → Int) (B : Nat) (w : World) (hn : n ≤ 1048576) (hm : m ≤ 1048576)
    (hA : Strs w B sa n f) (hX : Nums w B s1 n x) (hB : Strs w B sb m g) (hY : Nums w B s2 m y) (hf : Rises f n) (hg : Rises g m) (hx : ∀ a, a < n → 0 ≤ x a) (hy : ∀ a, a < m → 0 ≤ y a) :
    Calls Try.prog 11 #[.slice sa n ca, .slice s1 n c1, .slice sb m cb, .slice s2 m c2] w fun e w' =>
      e = .returned (.tuple #[.bool (abv g y f x n m), .bool (abv f x g y m n)]) ∧ w' = w := by
  refine (lessMore_any sa n ca s1 c1 sb m cb s2 c2 f g x y B w hn hm hA hX hB hY).mono ?_
  rintro e w' ⟨rfl, rfl⟩
  rw [less_eq hf hg hx, more_eq hf hg hy]
  exact ⟨rfl, rfl⟩

set_option maxRecDepth 100000 in
set_option maxHeartbeats 2000000 in
theorem lawO_main (sa : Option Addr) (na ca : Nat) (s1 : Option Addr) (c1 : Nat) (sb : Option Addr) (nb cb : Nat) (s2 : Option Addr) (c2 : Nat) (f g : Nat → ByteArray) (x y : Nat → Int) (w : World)
    (hna : na ≤ 4096) (hnb : nb ≤ 4096) (bX : ∀ i, i < na → 0 ≤ x i ∧ x i ≤ 18446744073709551615) (bY : ∀ i, i < nb → 0 ≤ y i ∧ y i ≤ 18446744073709551615)
    (ha : Any0 sa na ca) (h1 : Any0 s1 na c1) (hb : Any0 sb nb cb) (h2 : Any0 s2 nb c2)
    (hA : Strs w w.heap.size sa na f) (hX : Nums w w.heap.size s1 na x) (hB : Strs w w.heap.size sb nb g) (hY : Nums w w.heap.size s2 nb y) :
    Calls Try.prog 5 #[.slice sa na ca, .slice s1 na c1, .slice sb nb cb, .slice s2 nb c2] w fun e w' => e = .returned (.bool true) ∧ Below w.heap.size w w' := by
  have HA := hid hA
  have HX := hid hX
  have HB := hid hB
  have HY := hid hY
  have HHa := hid ha
  have HH1 := hid h1
  have HHb := hid hb
  have HH2 := hid h2
  clear hA hX hB hY ha h1 hb h2
  have HBX := hid bX
  have HBY := hid bY
  clear bX bY
  go_enter Try.func5, Try.ntmps5
  go_wp2_with fail
  refine (bytes17_any sa na ca s1 na c1 sb nb cb s2 nb c2 w.heap.size w.heap.size f g w HA.out HB.out).mono ?_
  rintro e w' ⟨⟨b0, rfl⟩, hw⟩
  obtain rfl : w = w' := hw.symm
  cases b0
  · go_wp2
    go_ret
    exact ⟨rfl, Below.refl _ _⟩
  go_wp2_with fail
  refine (over_any sa na ca sb nb cb _ _ w.heap.size w.heap.size f g w (by omega) (by omega) HA.out HB.out).mono ?_
  rintro e w' ⟨⟨b1, rfl⟩, hw⟩
  obtain rfl : w = w' := hw.symm
  cases b1
  rotate_left 1
  · go_wp2
    go_ret
    exact ⟨rfl, Below.refl _ _⟩
  go_wp2_with fail
  refine (sorted_below sa na ca w.heap.size f w (by omega) HA.out).mono ?_
  rintro e w1 ⟨rfl, hb1⟩
  cases hsf : srt f na
  · go_wp2
    go_ret
    exact ⟨rfl, hb1⟩
  have HF := hid hsf
  have HB1 := hid hb1
  clear hb1 hsf
  go_wp2_with fail
  refine (sorted_below sb nb cb w.heap.size g w1 (by omega) (HB.out.later HB1.out)).mono ?_
  rintro e w2 ⟨rfl, hb2⟩
  have HB2 : Hid (Below w.heap.size w w2) := HB1.out.trans (hb2.mono HB1.out.size)
  clear hb2
  cases hsg : srt g nb
  · go_wp2
    go_ret
    exact ⟨rfl, HB2.out⟩
  have HG := hid hsg
  clear hsg HB1
  have VA : Hid (HasStrs0 (.slice sa na ca) na f w2) := ⟨sa, ca, rfl, (HA.out.later HB2.out).mono HB2.out.size⟩
  have VX : Hid (HasNums0 (.slice s1 na c1) na x w2) := ⟨s1, c1, rfl, (HX.out.later HB2.out).mono HB2.out.size⟩
  have VB : Hid (HasStrs0 (.slice sb nb cb) nb g w2) := ⟨sb, cb, rfl, (HB.out.later HB2.out).mono HB2.out.size⟩
  have VY : Hid (HasNums0 (.slice s2 nb c2) nb y w2) := ⟨s2, c2, rfl, (HY.out.later HB2.out).mono HB2.out.size⟩
  clear HA HX HB HY
  go_upto_if 78 with fail
  go_cut [0] (fun v wx => HasStrs v na f wx ∧ Below w2.heap.size w2 wx)
  case first =>
    rcases HHa.out with ⟨e1, e2, e3⟩ | ⟨a, e1⟩
    · subst e1 e2 e3
      go_wp2
      go_meet
      case rel => exact ⟨HasStrs.nil _ _, Below.refl _ _⟩
    · subst e1
      obtain ⟨wa, wb, hmk, hcp, hbel, hlt, hT⟩ := clone_strs w2 (some a) na ca f hna VA.out.get
      have HBEL := hid hbel
      have HT := hid hT
      clear hbel hT
      go_wp2
      go_meet
      case rel => exact ⟨⟨_, na, rfl, Nat.le_refl _, .inr ⟨_, _, rfl⟩, HT.out⟩, HBEL.out⟩
  case rest =>
  obtain ⟨hv0, hbc⟩ := hcut
  obtain ⟨w3, rfl⟩ : ∃ w3 : World, w3 = wc := ⟨_, rfl⟩
  have VAx := hid hv0
  have VXx := hid (VX.out.later hbc)
  have VBx := hid (VB.out.later hbc)
  have VYx := hid (VY.out.later hbc)
  have HB3 : Hid (Below w.heap.size w w3) := HB2.out.trans (hbc.mono HB2.out.size)
  clear VA VX VB VY HB2 hv0 hbc HHa
  obtain ⟨qVA, kVA, rfl, hkVA, hhVA, hsVA⟩ := VAx.out
  have HVA := hid hhVA
  clear hsVA hhVA
  have VA := VAx
  clear VAx
  have VX := VXx
  clear VXx
  have VB := VBx
  clear VBx
  have VY := VYx
  clear VYx
  go_upto_if 87 with fail
  go_cut [1] (fun v wx => HasNums v na x wx ∧ Below w3.heap.size w3 wx)
  case first =>
    rcases HH1.out with ⟨e1, e2, e3⟩ | ⟨a, e1⟩
    · subst e1 e2 e3
      go_wp2
      go_meet
      case rel => exact ⟨HasNums.nil _ _, Below.refl _ _⟩
    · subst e1
      obtain ⟨wa, wb, hmk, hcp, hbel, hlt, hT⟩ := clone_nums w3 (some a) na c1 x hna VX.out.get
      have HBEL := hid hbel
      have HT := hid hT
      clear hbel hT
      go_wp2
      go_meet
      case rel => exact ⟨⟨_, na, rfl, Nat.le_refl _, .inr ⟨_, _, rfl⟩, HT.out⟩, HBEL.out⟩
  case rest =>
  obtain ⟨hv0, hbc⟩ := hcut
  obtain ⟨w4, rfl⟩ : ∃ w4 : World, w4 = wc := ⟨_, rfl⟩
  have VXx := hid hv0
  have VAx := hid (VA.out.later hbc)
  have VBx := hid (VB.out.later hbc)
  have VYx := hid (VY.out.later hbc)
  have HB4 : Hid (Below w.heap.size w w4) := HB3.out.trans (hbc.mono HB3.out.size)
  clear VX VA VB VY HB3 hv0 hbc HH1
  obtain ⟨qVX, kVX, rfl, hkVX, hhVX, hsVX⟩ := VXx.out
  have HVX := hid hhVX
  clear hsVX hhVX
  have VX := VXx
  clear VXx
  have VA := VAx
  clear VAx
  have VB := VBx
  clear VBx
  have VY := VYx
  clear VYx
  go_upto_if 96 with fail
  go_cut [2] (fun v wx => HasStrs v nb g wx ∧ Below w4.heap.size w4 wx)
  case first =>
    rcases HHb.out with ⟨e1, e2, e3⟩ | ⟨a, e1⟩
    · subst e1 e2 e3
      go_wp2
      go_meet
      case rel => exact ⟨HasStrs.nil _ _, Below.refl _ _⟩
    · subst e1
      obtain ⟨wa, wb, hmk, hcp, hbel, hlt, hT⟩ := clone_strs w4 (some a) nb cb g hnb VB.out.get
      have HBEL := hid hbel
      have HT := hid hT
      clear hbel hT
      go_wp2
      go_meet
      case rel => exact ⟨⟨_, nb, rfl, Nat.le_refl _, .inr ⟨_, _, rfl⟩, HT.out⟩, HBEL.out⟩
  case rest =>
  obtain ⟨hv0, hbc⟩ := hcut
  obtain ⟨w5, rfl⟩ : ∃ w5 : World, w5 = wc := ⟨_, rfl⟩
  have VBx := hid hv0
  have VAx := hid (VA.out.later hbc)
  have VXx := hid (VX.out.later hbc)
  have VYx := hid (VY.out.later hbc)
  have HB5 : Hid (Below w.heap.size w w5) := HB4.out.trans (hbc.mono HB4.out.size)
  clear VB VA VX VY HB4 hv0 hbc HHb
  obtain ⟨qVB, kVB, rfl, hkVB, hhVB, hsVB⟩ := VBx.out
  have HVB := hid hhVB
  clear hsVB hhVB
  have VB := VBx
  clear VBx
  have VA := VAx
  clear VAx
  have VX := VXx
  clear VXx
  have VY := VYx
  clear VYx
  go_upto_if 105 with fail
  go_cut [3] (fun v wx => HasNums v nb y wx ∧ Below w5.heap.size w5 wx)
  case first =>
    rcases HH2.out with ⟨e1, e2, e3⟩ | ⟨a, e1⟩
    · subst e1 e2 e3
      go_wp2
      go_meet
      case rel => exact ⟨HasNums.nil _ _, Below.refl _ _⟩
    · subst e1
      obtain ⟨wa, wb, hmk, hcp, hbel, hlt, hT⟩ := clone_nums w5 (some a) nb c2 y hnb VY.out.get
      have HBEL := hid hbel
      have HT := hid hT
      clear hbel hT
      go_wp2
      go_meet
      case rel => exact ⟨⟨_, nb, rfl, Nat.le_refl _, .inr ⟨_, _, rfl⟩, HT.out⟩, HBEL.out⟩
  case rest =>
  obtain ⟨hv0, hbc⟩ := hcut
  obtain ⟨w6, rfl⟩ : ∃ w6 : World, w6 = wc := ⟨_, rfl⟩
  have VYx := hid hv0
  have VAx := hid (VA.out.later hbc)
  have VXx := hid (VX.out.later hbc)
  have VBx := hid (VB.out.later hbc)
  have HB6 : Hid (Below w.heap.size w w6) := HB5.out.trans (hbc.mono HB5.out.size)
  clear VY VA VX VB HB5 hv0 hbc HH2
  obtain ⟨qVY, kVY, rfl, hkVY, hhVY, hsVY⟩ := VYx.out
  have HVY := hid hhVY
  clear hsVY hhVY
  have VY := VYx
  clear VYx
  have VA := VAx
  clear VAx
  have VX := VXx
  clear VXx
  have VB := VBx
  clear VBx
  go_wp2_with fail
  refine (zzoutrank_below qVA na kVA qVX kVX qVB nb kVB qVY kVY f g x y w6.heap.size w6 (by omega) (by omega) hkVB hkVY VA.out.get VX.out.get VB.out.get VY.out.get (rises_of_srt HF.out) (rises_of_srt HG.out) (fun a h => (HBX.out a h).1)).mono ?_
  rintro e w7 ⟨rfl, hb7⟩
  have WA := hid (VA.out.later hb7)
  have WX := hid (VX.out.later hb7)
  have WB := hid (VB.out.later hb7)
  have WY := hid (VY.out.later hb7)
  have HB7 := hid (HB6.out.trans (hb7.mono HB6.out.size))
  clear hb7 VA VX VB VY HB6
  go_wp2_with fail
  refine (zzoutrank_below qVB nb kVB qVY kVY qVA na kVA qVX kVX g f y x w7.heap.size w7 (by omega) (by omega) hkVA hkVX WB.out.get WY.out.get WA.out.get WX.out.get (rises_of_srt HG.out) (rises_of_srt HF.out) (fun a h => (HBY.out a h).1)).mono ?_
  rintro e w8 ⟨rfl, hb8⟩
  have VA := hid (WA.out.later hb8)
  have VX := hid (WX.out.later hb8)
  have VB := hid (WB.out.later hb8)
  have VY := hid (WY.out.later hb8)
  have HB8 := hid (HB7.out.trans (hb8.mono HB7.out.size))
  clear hb8 WA WX WB WY HB7
  go_wp2_with fail
  refine (lessMore_sorted qVA na kVA qVX kVX qVB nb kVB qVY kVY f g x y w8.heap.size w8 (by omega) (by omega) VA.out.get VX.out.get VB.out.get VY.out.get (rises_of_srt HF.out) (rises_of_srt HG.out) (fun a h => (HBX.out a h).1) (fun a h => (HBY.out a h).1)).mono ?_
  rintro e w9 ⟨rfl, hw9⟩
  obtain rfl : w8 = w9 := hw9.symm
  generalize abv f x g y nb na = p
  generalize abv g y f x na nb = q
  cases p <;> cases q
  all_goals
    go_wp2
    go_ret
    exact ⟨rfl, HB8.out⟩

set_option maxRecDepth 100000 in
set_option maxHeartbeats 1000000 in
/-- Too long: true at once. -/
theorem lawO_long (sa : Option Addr) (na ca : Nat) (s1 : Option Addr) (n1 c1 : Nat) (sb : Option Addr) (nb cb : Nat) (s2 : Option Addr) (n2 c2 : Nat) (f g : Nat → ByteArray) (w : World)
    (hl : ¬ (na ≤ 4096 ∧ n1 ≤ 4096 ∧ nb ≤ 4096 ∧ n2 ≤ 4096)) (hA : Strs w w.heap.size sa na f) (hB : Strs w w.heap.size sb nb g) :
    Calls Try.prog 5 #[.slice sa na ca, .slice s1 n1 c1, .slice sb nb cb, .slice s2 n2 c2] w fun e w' => e = .returned (.bool true) ∧ w' = w := by
  have HA := hid hA
  have HB := hid hB
  clear hA hB
  rcases (by omega : 4096 < na ∨ (na ≤ 4096 ∧ 4096 < n1) ∨ (na ≤ 4096 ∧ n1 ≤ 4096 ∧ 4096 < nb) ∨ (na ≤ 4096 ∧ n1 ≤ 4096 ∧ nb ≤ 4096 ∧ 4096 < n2)) with q1 | ⟨q1, q2⟩ | ⟨q1, q2, q3⟩ | ⟨q1, q2, q3, q4⟩
  all_goals
    clear hl
    go_enter Try.func5, Try.ntmps5
    go_wp2_with fail
    refine (bytes17_any sa na ca s1 n1 c1 sb nb cb s2 n2 c2 w.heap.size w.heap.size f g w HA.out HB.out).mono ?_
    rintro e w' ⟨⟨b0, rfl⟩, rfl⟩
    cases b0
    all_goals
      go_wp2
      go_ret
      exact ⟨rfl, rfl⟩

set_option maxRecDepth 100000 in
set_option maxHeartbeats 1000000 in
/-- Not one count each: true at once. -/
theorem lawO_odd (sa : Option Addr) (na ca : Nat) (s1 : Option Addr) (n1 c1 : Nat) (sb : Option Addr) (nb cb : Nat) (s2 : Option Addr) (n2 c2 : Nat) (f g : Nat → ByteArray) (w : World)
    (hna : na ≤ 4096) (hn1 : n1 ≤ 4096) (hnb : nb ≤ 4096) (hn2 : n2 ≤ 4096) (hl : ¬ (n1 = na ∧ n2 = nb)) (hA : Strs w w.heap.size sa na f) (hB : Strs w w.heap.size sb nb g) :
    Calls Try.prog 5 #[.slice sa na ca, .slice s1 n1 c1, .slice sb nb cb, .slice s2 n2 c2] w fun e w' => e = .returned (.bool true) ∧ w' = w := by
  have HA := hid hA
  have HB := hid hB
  clear hA hB
  have hq : ((n1 : Int) != (na : Int)) = true ∨ (((n1 : Int) != (na : Int)) = false ∧ ((n2 : Int) != (nb : Int)) = true) := by
    by_cases e : n1 = na
    · exact .inr ⟨by simp [e], by simp; omega⟩
    · exact .inl (by simp; omega)
  clear hl
  rcases hq with q1 | ⟨q1, q2⟩
  all_goals
    go_enter Try.func5, Try.ntmps5
    go_wp2_with fail
    refine (bytes17_any sa na ca s1 n1 c1 sb nb cb s2 n2 c2 w.heap.size w.heap.size f g w HA.out HB.out).mono ?_
    rintro e w' ⟨⟨b0, rfl⟩, hw⟩
    obtain rfl : w = w' := hw.symm
    cases b0
    · go_wp2
      go_ret
      exact ⟨rfl, rfl⟩
    go_wp2_with fail
    refine (over_any sa na ca sb nb cb _ _ w.heap.size w.heap.size f g w (by omega) (by omega) HA.out HB.out).mono ?_
    rintro e w' ⟨⟨b1, rfl⟩, hw⟩
    obtain rfl : w = w' := hw.symm
    cases b1
    all_goals
      go_wp2
      go_ret
      exact ⟨rfl, rfl⟩

end Go.Proofs.Qxb6617169a
