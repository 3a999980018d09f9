/-
  THE WALK of FnUnionIsSortedSetUnion.
-/
import Derived.Test.Qxb6617169aKit
namespace Go.Proofs.Qxb6617169a
open Go.RowKit

/-- What the law asks of the union's list, by index. -/
structure UF (f : Nat → ByteArray) (na : Nat) (g : Nat → ByteArray) (nb : Nat) (l : Nat → ByteArray) (n : Nat) : Prop where
  srt : srt l n = true
  len : n ≤ na + nb
  sub : ∀ j, j < n → has f (l j) na = true ∨ has g (l j) nb = true
  supF : ∀ a, a < na → has l (f a) n = true
  supG : ∀ b, b < nb → has l (g b) n = true
theorem has_getD {L : List ByteArray} {x : ByteArray} (h : x ∈ L) : has (fun i => L.getD i ByteArray.empty) x L.length = true := by
  obtain ⟨i, hi, e⟩ := List.mem_iff_getElem.1 h
  exact has_iff.2 ⟨i, hi, by simp [List.getD, hi, e]⟩
theorem uf_of_union {f : Nat → ByteArray} {na : Nat} {g : Nat → ByteArray} {nb : Nat} {L : List ByteArray} (h : UnionOf f na g nb L) : UF f na g nb (fun i => L.getD i ByteArray.empty) L.length := by
  refine ⟨srt_of_rises fun i j hij hj => ?_, h.len, fun j hj => ?_, fun a ha => has_getD ((h.mem _).2 (.inl ⟨a, ha, rfl⟩)), fun b hb => has_getD ((h.mem _).2 (.inr ⟨b, hb, rfl⟩))⟩
  · have := List.pairwise_iff_getElem.1 h.up i j (by omega) hj hij
    simpa [List.getD, hj, show i < L.length by omega] using this
  · have hm : L.getD j ByteArray.empty ∈ L := by simp [List.getD, hj]
    rcases (h.mem _).1 hm with ⟨a, ha, e⟩ | ⟨b, hb, e⟩
    · exact .inl (has_iff.2 ⟨a, ha, e⟩)
    · exact .inr (has_iff.2 ⟨b, hb, e⟩)

theorem eqs_below (sv sv' : Option Addr) (n c c' B B' : Nat) (f : Nat → ByteArray) (w : World) (hn : n ≤ 1048576) (hS : Strs w B sv n f) (hS' : Strs w B' sv' n f) :
    Calls Try.prog 21 #[.slice sv n c, .slice sv' n c'] w fun e w' => e = .returned (.bool true) ∧ Below w.heap.size w w' := by
  refine (eqs_yes sv sv' n c c' B B' f w hn hS hS').mono ?_
  rintro e w' ⟨rfl, q, rfl⟩
  exact ⟨rfl, below_drewN (Below.refl _ _) q⟩

set_option maxRecDepth 100000 in
set_option maxHeartbeats 2000000 in
theorem lawU_main (sa : Option Addr) (na ca : Nat) (s1 : Option Addr) (n1 c1 : Nat) (sb : Option Addr) (nb cb : Nat) (s2 : Option Addr) (n2 c2 : Nat) (f g : Nat → ByteArray) (x y : Nat → Int) (w : World)
    (hna : na ≤ 4096) (hn1 : n1 ≤ 4096) (hnb : nb ≤ 4096) (hn2 : n2 ≤ 4096)
    (ha : Any0 sa na ca) (h1 : Any0 s1 n1 c1) (hb : Any0 sb nb cb) (h2 : Any0 s2 n2 c2)
    (hA : Strs w w.heap.size sa na f) (hX : Nums w w.heap.size s1 n1 x) (hB : Strs w w.heap.size sb nb g) (hY : Nums w w.heap.size s2 n2 y) :
    Calls Try.prog 6 #[.slice sa na ca, .slice s1 n1 c1, .slice sb nb cb, .slice s2 n2 c2] w fun e w' => e = .returned (.bool true) ∧ Below w.heap.size w w' := by
  have HA := hid hA
  have HX := hid hX
  have HB := hid hB
  have HY := hid hY
  have HHa := hid ha
  have HH1 := hid h1
  have HHb := hid hb
  have HH2 := hid h2
  clear hA hX hB hY ha h1 hb h2
  go_enter Try.func6, Try.ntmps6
  go_wp2_with fail
  refine (bytes19_any sa na ca s1 n1 c1 sb nb cb s2 n2 c2 w.heap.size w.heap.size f g w HA.out HB.out).mono ?_
  rintro e w' ⟨⟨b0, rfl⟩, hw⟩
  obtain rfl : w = w' := hw.symm
  cases b0
  · go_wp2
    go_ret
    exact ⟨rfl, Below.refl _ _⟩
  go_wp2_with fail
  refine (over_any sa na ca sb nb cb _ _ w.heap.size w.heap.size f g w (by omega) (by omega) HA.out HB.out).mono ?_
  rintro e w' ⟨⟨b1, rfl⟩, hw⟩
  obtain rfl : w = w' := hw.symm
  cases b1
  rotate_left 1
  · go_wp2
    go_ret
    exact ⟨rfl, Below.refl _ _⟩
  go_wp2_with fail
  refine (sorted_below sa na ca w.heap.size f w (by omega) HA.out).mono ?_
  rintro e w1 ⟨rfl, hb1⟩
  cases hsf : srt f na
  · go_wp2
    go_ret
    exact ⟨rfl, hb1⟩
  have HF := hid hsf
  have HB1 := hid hb1
  clear hb1 hsf
  go_wp2_with fail
  refine (sorted_below sb nb cb w.heap.size g w1 (by omega) (HB.out.later HB1.out)).mono ?_
  rintro e w2 ⟨rfl, hb2⟩
  have HB2 : Hid (Below w.heap.size w w2) := HB1.out.trans (hb2.mono HB1.out.size)
  clear hb2
  cases hsg : srt g nb
  · go_wp2
    go_ret
    exact ⟨rfl, HB2.out⟩
  have HG := hid hsg
  clear hsg HB1
  have VA : Hid (HasStrs0 (.slice sa na ca) na f w2) := ⟨sa, ca, rfl, (HA.out.later HB2.out).mono HB2.out.size⟩
  have VX : Hid (HasNums0 (.slice s1 n1 c1) n1 x w2) := ⟨s1, c1, rfl, (HX.out.later HB2.out).mono HB2.out.size⟩
  have VB : Hid (HasStrs0 (.slice sb nb cb) nb g w2) := ⟨sb, cb, rfl, (HB.out.later HB2.out).mono HB2.out.size⟩
  have VY : Hid (HasNums0 (.slice s2 n2 c2) n2 y w2) := ⟨s2, c2, rfl, (HY.out.later HB2.out).mono HB2.out.size⟩
  clear HA HX HB HY
  go_upto_if 67 with fail
  go_cut [0] (fun v wx => HasStrs v na f wx ∧ Below w2.heap.size w2 wx)
  case first =>
    rcases HHa.out with ⟨e1, e2, e3⟩ | ⟨a, e1⟩
    · subst e1 e2 e3
      go_wp2
      go_meet
      case rel => exact ⟨HasStrs.nil _ _, Below.refl _ _⟩
    · subst e1
      obtain ⟨wa, wb, hmk, hcp, hbel, hlt, hT⟩ := clone_strs w2 (some a) na ca f hna VA.out.get
      have HBEL := hid hbel
      have HT := hid hT
      clear hbel hT
      go_wp2
      go_meet
      case rel => exact ⟨⟨_, na, rfl, Nat.le_refl _, .inr ⟨_, _, rfl⟩, HT.out⟩, HBEL.out⟩
  case rest =>
  obtain ⟨hv0, hbc⟩ := hcut
  obtain ⟨w3, rfl⟩ : ∃ w3 : World, w3 = wc := ⟨_, rfl⟩
  have VAx := hid hv0
  have VXx := hid (VX.out.later hbc)
  have VBx := hid (VB.out.later hbc)
  have VYx := hid (VY.out.later hbc)
  have HB3 : Hid (Below w.heap.size w w3) := HB2.out.trans (hbc.mono HB2.out.size)
  clear VA VX VB VY HB2 hv0 hbc HHa
  obtain ⟨qVA, kVA, rfl, hkVA, hhVA, hsVA⟩ := VAx.out
  have HVA := hid hhVA
  clear hsVA hhVA
  have VA := VAx
  clear VAx
  have VX := VXx
  clear VXx
  have VB := VBx
  clear VBx
  have VY := VYx
  clear VYx
  go_upto_if 76 with fail
  go_cut [1] (fun v wx => HasNums v n1 x wx ∧ Below w3.heap.size w3 wx)
  case first =>
    rcases HH1.out with ⟨e1, e2, e3⟩ | ⟨a, e1⟩
    · subst e1 e2 e3
      go_wp2
      go_meet
      case rel => exact ⟨HasNums.nil _ _, Below.refl _ _⟩
    · subst e1
      obtain ⟨wa, wb, hmk, hcp, hbel, hlt, hT⟩ := clone_nums w3 (some a) n1 c1 x hn1 VX.out.get
      have HBEL := hid hbel
      have HT := hid hT
      clear hbel hT
      go_wp2
      go_meet
      case rel => exact ⟨⟨_, n1, rfl, Nat.le_refl _, .inr ⟨_, _, rfl⟩, HT.out⟩, HBEL.out⟩
  case rest =>
  obtain ⟨hv0, hbc⟩ := hcut
  obtain ⟨w4, rfl⟩ : ∃ w4 : World, w4 = wc := ⟨_, rfl⟩
  have VXx := hid hv0
  have VAx := hid (VA.out.later hbc)
  have VBx := hid (VB.out.later hbc)
  have VYx := hid (VY.out.later hbc)
  have HB4 : Hid (Below w.heap.size w w4) := HB3.out.trans (hbc.mono HB3.out.size)
  clear VX VA VB VY HB3 hv0 hbc HH1
  obtain ⟨qVX, kVX, rfl, hkVX, hhVX, hsVX⟩ := VXx.out
  have HVX := hid hhVX
  clear hsVX hhVX
  have VX := VXx
  clear VXx
  have VA := VAx
  clear VAx
  have VB := VBx
  clear VBx
  have VY := VYx
  clear VYx
  go_upto_if 85 with fail
  go_cut [2] (fun v wx => HasStrs v nb g wx ∧ Below w4.heap.size w4 wx)
  case first =>
    rcases HHb.out with ⟨e1, e2, e3⟩ | ⟨a, e1⟩
    · subst e1 e2 e3
      go_wp2
      go_meet
      case rel => exact ⟨HasStrs.nil _ _, Below.refl _ _⟩
    · subst e1
      obtain ⟨wa, wb, hmk, hcp, hbel, hlt, hT⟩ := clone_strs w4 (some a) nb cb g hnb VB.out.get
      have HBEL := hid hbel
      have HT := hid hT
      clear hbel hT
      go_wp2
      go_meet
      case rel => exact ⟨⟨_, nb, rfl, Nat.le_refl _, .inr ⟨_, _, rfl⟩, HT.out⟩, HBEL.out⟩
  case rest =>
  obtain ⟨hv0, hbc⟩ := hcut
  obtain ⟨w5, rfl⟩ : ∃ w5 : World, w5 = wc := ⟨_, rfl⟩
  have VBx := hid hv0
  have VAx := hid (VA.out.later hbc)
  have VXx := hid (VX.out.later hbc)
  have VYx := hid (VY.out.later hbc)
  have HB5 : Hid (Below w.heap.size w w5) := HB4.out.trans (hbc.mono HB4.out.size)
  clear VB VA VX VY HB4 hv0 hbc HHb
  obtain ⟨qVB, kVB, rfl, hkVB, hhVB, hsVB⟩ := VBx.out
  have HVB := hid hhVB
  clear hsVB hhVB
  have VB := VBx
  clear VBx
  have VA := VAx
  clear VAx
  have VX := VXx
  clear VXx
  have VY := VYx
  clear VYx
  go_upto_if 94 with fail
  go_cut [3] (fun v wx => HasNums v n2 y wx ∧ Below w5.heap.size w5 wx)
  case first =>
    rcases HH2.out with ⟨e1, e2, e3⟩ | ⟨a, e1⟩
    · subst e1 e2 e3
      go_wp2
      go_meet
      case rel => exact ⟨HasNums.nil _ _, Below.refl _ _⟩
    · subst e1
      obtain ⟨wa, wb, hmk, hcp, hbel, hlt, hT⟩ := clone_nums w5 (some a) n2 c2 y hn2 VY.out.get
      have HBEL := hid hbel
      have HT := hid hT
      clear hbel hT
      go_wp2
      go_meet
      case rel => exact ⟨⟨_, n2, rfl, Nat.le_refl _, .inr ⟨_, _, rfl⟩, HT.out⟩, HBEL.out⟩
  case rest =>
  obtain ⟨hv0, hbc⟩ := hcut
  obtain ⟨w6, rfl⟩ : ∃ w6 : World, w6 = wc := ⟨_, rfl⟩
  have VYx := hid hv0
  have VAx := hid (VA.out.later hbc)
  have VXx := hid (VX.out.later hbc)
  have VBx := hid (VB.out.later hbc)
  have HB6 : Hid (Below w.heap.size w w6) := HB5.out.trans (hbc.mono HB5.out.size)
  clear VY VA VX VB HB5 hv0 hbc HH2
  obtain ⟨qVY, kVY, rfl, hkVY, hhVY, hsVY⟩ := VYx.out
  have HVY := hid hhVY
  clear hsVY hhVY
  have VY := VYx
  clear VYx
  have VA := VAx
  clear VAx
  have VX := VXx
  clear VXx
  have VB := VBx
  clear VBx
  go_wp2_with fail
  refine (vector_any qVA na kVA qVX n1 kVX w6).mono ?_
  rintro e w7 ⟨rfl, hb7, hr7, hs7⟩
  have hp7 := put1_below w7 (.pointer (some ⟨w6.heap.size + 1, 0, none⟩)) (.slice qVX n1 kVX)
  have hq7 := put1_boxed w7 (.pointer (some ⟨w6.heap.size + 1, 0, none⟩)) (.slice qVX n1 kVX)
  have hl7 : w6.heap.size + 1 < w7.heap.size := by omega
  have R1 := hid ((hp7.cell (p := ⟨w6.heap.size + 1, 1, none⟩) hl7).trans hr7)
  have hb67 : Below w6.heap.size w6 (put1 w7 (.pointer (some ⟨w6.heap.size + 1, 0, none⟩)) (.slice qVX n1 kVX)) := hb7.trans (hp7.mono hb7.size)
  have SA := hid ((VA.out.later hb67).get)
  have SB := hid ((VB.out.later hb67).get)
  have B8 := hid (HB6.out.trans (hb67.mono HB6.out.size))
  have Q1 := hid hq7
  clear hp7 hq7 hr7 hs7 hb67 hb7 VA VX VB VY HB6 hl7
  generalize hr1 : w6.heap.size + 1 = r1 at *
  clear hr1
  go_wp2_with fail
  refine (vector_any qVB nb kVB qVY n2 kVY (put1 w7 (.pointer (some ⟨r1, 0, none⟩)) (.slice qVX n1 kVX))).mono ?_
  rintro e w9 ⟨rfl, hb9, hr9, hs9⟩
  generalize hr2 : (put1 w7 (.pointer (some ⟨r1, 0, none⟩)) (.slice qVX n1 kVX)).heap.size + 1 = r2 at *
  have hp9 := put1_below w9 (.pointer (some ⟨r2, 0, none⟩)) (.slice qVY n2 kVY)
  have hq9 := put1_boxed w9 (.pointer (some ⟨r2, 0, none⟩)) (.slice qVY n2 kVY)
  have hl9 : r2 < w9.heap.size := by omega
  have hb10 : Below (put1 w7 (.pointer (some ⟨r1, 0, none⟩)) (.slice qVX n1 kVX)).heap.size (put1 w7 (.pointer (some ⟨r1, 0, none⟩)) (.slice qVX n1 kVX)) (put1 w9 (.pointer (some ⟨r2, 0, none⟩)) (.slice qVY n2 kVY)) := hb9.trans (hp9.mono hb9.size)
  have y1 := (Q1.out.later hb9).c0
  have y2 := (Q1.out.later hb9).c1
  have hb1 : w7.heap.size < w9.heap.size := World.block_lt_of_cell? _ _ y1
  have P2 := hid ((hp9.cell (p := ⟨r2, 1, none⟩) hl9).trans hr9)
  have P1 := hid ((hb10.cell (p := ⟨r1, 1, none⟩) (World.block_lt_of_cell? _ _ R1.out)).trans R1.out)
  have X1 := hid (Q1.out.later hb10)
  have X2 := hid hq9
  have TA := hid ((SA.out.later hb10).mono hb10.size)
  have TB := hid ((SB.out.later hb10).mono hb10.size)
  have B10 := hid (B8.out.trans (hb10.mono B8.out.size))
  clear hp9 hq9 hb10 hr9 hs9 hb9 SA SB B8 Q1 R1 hr2 hl9
  generalize w7.heap.size = b1 at *
  go_wp2_with fail
  refine (zzunion_any r1 r2 qVA na kVA qVB nb kVB qVX n1 kVX qVY n2 kVY f g (put1 w9 (.pointer (some ⟨r2, 0, none⟩)) (.slice qVY n2 kVY)) hna hnb P1.out P2.out HVA.out hkVA TA.out TB.out (rises_of_srt HF.out) (rises_of_srt HG.out)).mono ?_
  rintro e w11 ⟨L, su, cu, rfl, hU, hS, hb11⟩
  have Z1 := (X1.out.later hb11)
  have Z2 := (X2.out.later hb11)
  have z1 := Z1.c0
  have z2 := Z1.c1
  have z3 := Z2.c0
  have z4 := Z2.c1
  have P1' := hid ((hb11.cell (p := ⟨r1, 1, none⟩) (World.block_lt_of_cell? _ _ P1.out)).trans P1.out)
  have P2' := hid ((hb11.cell (p := ⟨r2, 1, none⟩) (World.block_lt_of_cell? _ _ P2.out)).trans P2.out)
  have TA' := hid ((TA.out.later hb11).mono hb11.size)
  have TB' := hid ((TB.out.later hb11).mono hb11.size)
  have B11 := hid (B10.out.trans (hb11.mono B10.out.size))
  have HU := hid hU
  have SL := hid hS
  clear hb11 hU hS P1 P2 TA TB B10 X1 X2 Z1 Z2 y1 y2 hb1
  generalize w9.heap.size = b2 at *
  go_wp2_with fail
  refine (zzunion_any r2 r1 qVB nb kVB qVA na kVA qVY n2 kVY qVX n1 kVX g f w11 hnb hna P2'.out P1'.out HVB.out hkVB TB'.out TA'.out (rises_of_srt HG.out) (rises_of_srt HF.out)).mono ?_
  rintro e w12 ⟨M, sm, cm, rfl, hU2, hS2, hb12⟩
  obtain rfl : L = M := HU.out.swap hU2
  have UFF := hid (uf_of_union HU.out)
  have TA := hid ((TA'.out.later hb12).mono hb12.size)
  have TB := hid ((TB'.out.later hb12).mono hb12.size)
  have SL2 := hid ((SL.out.later hb12).mono hb12.size)
  have SM := hid hS2
  have B12 := hid (B11.out.trans (hb12.mono B11.out.size))
  clear hb12 hU2 hS2 TA' TB' P1' P2' SL B11 HU z1 z2 z3 z4
  generalize hlL : (fun i => L.getD i ByteArray.empty) = l at *
  generalize hnL : L.length = n at *
  clear hlL hnL
  have hn : n ≤ 8192 := by have := UFF.out.len; omega
  go_wp2_with fail
  refine (sorted_below su n cu w12.heap.size l w12 (by omega) SL2.out).mono ?_
  rintro e w13 ⟨rfl, hb13⟩
  rw [UFF.out.srt]
  have SL3 := hid ((SL2.out.later hb13).mono hb13.size)
  have SM3 := hid ((SM.out.later hb13).mono hb13.size)
  have TA3 := hid ((TA.out.later hb13).mono hb13.size)
  have TB3 := hid ((TB.out.later hb13).mono hb13.size)
  have B13 := hid (B12.out.trans (hb13.mono B12.out.size))
  clear hb13 SL2 SM TA TB B12
  go_wp2_with fail
  refine (eqs_below su sm n cu cm w13.heap.size w13.heap.size l w13 (by omega) SL3.out SM3.out).mono ?_
  rintro e w14 ⟨rfl, hb14⟩
  have SL := hid ((SL3.out.later hb14).mono hb14.size)
  have TA := hid ((TA3.out.later hb14).mono hb14.size)
  have TB := hid ((TB3.out.later hb14).mono hb14.size)
  have B14 := hid (B13.out.trans (hb14.mono B13.out.size))
  clear hb14 SL3 SM3 TA3 TB3 B13
  go_wp2
  go_loop [17] (fun i => ∃ j : Nat, j ≤ n ∧ i = .int .i64 (j : Int)) (fun i => n - (intOf i).toNat)
  case atStart => exact ⟨0, by omega, rfl⟩
  case round =>
    obtain ⟨j, hj, rfl⟩ := hrel
    by_cases hlt : j < n
    · have hlt' : (j : Int) < (n : Int) := by omega
      obtain ⟨b, off, rfl, _, hc⟩ := SL.out j hlt
      have hsub := UFF.out.sub j hlt
      go_wp2_with fail
      refine (has_any qVA na kVA w14.heap.size f (l j) w14 (by omega) TA.out).mono ?_
      rintro e w' ⟨rfl, rfl⟩
      cases h1 : has f (l j) na
      · have h2 : has g (l j) nb = true := by rcases hsub with h | h; rw [h1] at h; cases h; exact h
        have H2 := hid h2
        clear hsub h1 h2
        go_wp2_with fail
        refine (has_any qVB nb kVB _ g (l j) _ (by omega) TB.out).mono ?_
        rintro e w' ⟨rfl, rfl⟩
        rw [H2.out]
        go_wp2
        go_round
        case rel => exact ⟨j + 1, by omega, by go_num⟩
        case measure => simp [intOf]; omega
      · clear hsub h1
        go_wp2
        go_round
        case rel => exact ⟨j + 1, by omega, by go_num⟩
        case measure => simp [intOf]; omega
    · clear hj
      go_wp2
      go_loop [18] (fun i => ∃ j : Nat, j ≤ na ∧ i = .int .i64 (j : Int)) (fun i => na - (intOf i).toNat)
      case atStart => exact ⟨0, by omega, rfl⟩
      case round =>
        obtain ⟨j2, hj2, rfl⟩ := hrel
        by_cases hlt2 : j2 < na
        · have hlt2' : (j2 : Int) < (na : Int) := by omega
          obtain ⟨b, off, rfl, _, hc⟩ := TA.out j2 hlt2
          have H2 := hid (UFF.out.supF j2 hlt2)
          go_wp2_with fail
          refine (has_any su n cu w14.heap.size l (f j2) w14 (by omega) SL.out).mono ?_
          rintro e w' ⟨rfl, rfl⟩
          rw [H2.out]
          go_wp2
          go_round
          case rel => exact ⟨j2 + 1, by omega, by go_num⟩
          case measure => simp [intOf]; omega
        · go_wp2
          go_loop [19] (fun i => ∃ j : Nat, j ≤ nb ∧ i = .int .i64 (j : Int)) (fun i => nb - (intOf i).toNat)
          case atStart => exact ⟨0, by omega, rfl⟩
          case round =>
            obtain ⟨j3, hj3, rfl⟩ := hrel
            by_cases hlt3 : j3 < nb
            · have hlt3' : (j3 : Int) < (nb : Int) := by omega
              obtain ⟨b, off, rfl, _, hc⟩ := TB.out j3 hlt3
              have H2 := hid (UFF.out.supG j3 hlt3)
              go_wp2_with fail
              refine (has_any su n cu w14.heap.size l (g j3) w14 (by omega) SL.out).mono ?_
              rintro e w' ⟨rfl, rfl⟩
              rw [H2.out]
              go_wp2
              go_round
              case rel => exact ⟨j3 + 1, by omega, by go_num⟩
              case measure => simp [intOf]; omega
            · go_wp2
              go_ret
              exact ⟨rfl, B14.out⟩

set_option maxRecDepth 100000 in
set_option maxHeartbeats 1000000 in
/-- Too long: true at once. -/
theorem lawU_long (sa : Option Addr) (na ca : Nat) (s1 : Option Addr) (n1 c1 : Nat) (sb : Option Addr) (nb cb : Nat) (s2 : Option Addr) (n2 c2 : Nat) (f g : Nat → ByteArray) (w : World)
    (hl : ¬ (na ≤ 4096 ∧ n1 ≤ 4096 ∧ nb ≤ 4096 ∧ n2 ≤ 4096)) (hA : Strs w w.heap.size sa na f) (hB : Strs w w.heap.size sb nb g) :
    Calls Try.prog 6 #[.slice sa na ca, .slice s1 n1 c1, .slice sb nb cb, .slice s2 n2 c2] w fun e w' => e = .returned (.bool true) ∧ w' = w := by
  have HA := hid hA
  have HB := hid hB
  clear hA hB
  rcases (by omega : 4096 < na ∨ (na ≤ 4096 ∧ 4096 < n1) ∨ (na ≤ 4096 ∧ n1 ≤ 4096 ∧ 4096 < nb) ∨ (na ≤ 4096 ∧ n1 ≤ 4096 ∧ nb ≤ 4096 ∧ 4096 < n2)) with q1 | ⟨q1, q2⟩ | ⟨q1, q2, q3⟩ | ⟨q1, q2, q3, q4⟩
  all_goals
    clear hl
    go_enter Try.func6, Try.ntmps6
    go_wp2_with fail
    refine (bytes19_any sa na ca s1 n1 c1 sb nb cb s2 n2 c2 w.heap.size w.heap.size f g w HA.out HB.out).mono ?_
    rintro e w' ⟨⟨b0, rfl⟩, rfl⟩
    cases b0
    all_goals
      go_wp2
      go_ret
      exact ⟨rfl, rfl⟩

end Go.Proofs.Qxb6617169a
