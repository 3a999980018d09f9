import Derived.Test.Qxb6617024aGrow
namespace Go.Proofs.Qxb6617024a
open Go.RowKit

theorem Kept2.grownBy {w w' : World} {b : Nat} (h : Kept2 w w' b none) : w.grownBy w' (some b) :=
  ⟨h.os, h.tape, h.output, h.size, fun k hk hne => h.block k hk (fun e => hne (by rw [e])) (by simp)⟩
theorem One.kept {base b b' : Nat} {slot size val : Int} {w w' : World} (h : One base b slot size val w) (hk : Kept2 w w' b' none) (hne : b ≠ b') (hb' : b' < base) : One base b slot size val w' := by
  obtain ⟨g, cap, hc, ho⟩ := h
  have hlt : b < w.heap.size := World.block_lt_of_cell? _ _ hc
  have hg := (ho.lt g rfl).1
  refine ⟨g, cap, (World.cell?_of_block (a := ⟨b, 0, none⟩) (hk.block b hlt hne (by simp))).trans hc, ho.kept hk.grownBy (.inr ?_)⟩
  simp [Value.ownBlock]
  omega
theorem Kept2.cell {w w' : World} {b b' : Nat} {row : Option Nat} {v : Value} (hk : Kept2 w w' b row) (h : w.cell? ⟨b', 0, none⟩ = some v) (hne : b' ≠ b) (hr : some b' ≠ row) : w'.cell? ⟨b', 0, none⟩ = some v :=
  (World.cell?_of_block (a := ⟨b', 0, none⟩) (hk.block b' (World.block_lt_of_cell? _ _ h) hne hr)).trans h
theorem Kept2.frozen {w w' : World} {b b' : Nat} {row : Option Nat} {x : Bool} (hk : Kept2 w w' b row) (hlt : b' < w.heap.size) (h : w.frozen? ⟨b', 0, none⟩ = x) (hne : b' ≠ b) (hr : some b' ≠ row) : w'.frozen? ⟨b', 0, none⟩ = x :=
  (World.frozen?_of_block (a := ⟨b', 0, none⟩) (hk.block b' hlt hne hr)).trans h
theorem Kept2.below {w w' : World} {b B : Nat} {row : Option Nat} (hk : Kept2 w w' b row) (hB : B ≤ b) (hs : B ≤ w.heap.size) (hr : ∀ k, row = some k → B ≤ k) : Below B w w' :=
  ⟨hk.os, hk.tape, hk.output, hk.size, fun k h => hk.block k (by omega) (by omega) (fun e => by have := hr k e.symm; omega)⟩
theorem One.cells {base b : Nat} {slot size val : Int} {w : World} (h : One base b slot size val w) : ∃ g cap, w.cell? ⟨b, 0, none⟩ = some (.slice (some ⟨g, 0, none⟩) 1 cap) ∧
    w.cell? ⟨g, 0, none⟩ = some (.int .i64 slot) ∧ w.cell? ⟨g, 1, none⟩ = some (.int .i64 size) ∧ w.cell? ⟨g, 2, none⟩ = some (.int .u64 val) ∧ w.cell? ⟨g, 3, none⟩ = some .nilFunc := by
  obtain ⟨g, cap, hc, ho⟩ := h
  exact ⟨g, cap, hc, ho.cellAt 0 (by omega), ho.cellAt 1 (by omega), ho.cellAt 2 (by omega), ho.cellAt 3 (by omega)⟩

/-- A Builder without fields. -/
structure Empty (b : Nat) (w : World) : Prop where
  c : w.cell? ⟨b, 0, none⟩ = some (.slice none 0 0)
  f : w.frozen? ⟨b, 0, none⟩ = false
theorem Empty.kept {w w' : World} {b b' : Nat} {row : Option Nat} (h : Empty b' w) (hk : Kept2 w w' b row) (hne : b' ≠ b) (hr : some b' ≠ row) : Empty b' w' :=
  ⟨hk.cell h.c hne hr, hk.frozen (World.block_lt_of_cell? _ _ h.c) h.f hne hr⟩

set_option maxHeartbeats 400000 in
theorem law_out (slot x g : Int) (w : World) (hg : g < 0 ∨ 65536 < g) :
    Calls Try.prog 3 #[.int .i64 slot, .int .i32 x, .int .i64 g] w fun e w' => e = .returned (.bool true) ∧ w' = w := by
  rcases hg with hg | hg
  · go_enter Try.func3, Try.ntmps3
    go_wp2
    go_ret
    exact ⟨rfl, rfl⟩
  · have hg0 : ¬ g < 0 := by omega
    go_enter Try.func3, Try.ntmps3
    go_wp2
    go_ret
    exact ⟨rfl, rfl⟩

/-- Three Builders, new. -/
def w3 (w : World) : World := ((w.alloc (.cells #[.slice none 0 0] 24)).alloc (.cells #[.slice none 0 0] 24)).alloc (.cells #[.slice none 0 0] 24)
theorem w3_size (w : World) : (w3 w).heap.size = w.heap.size + 3 := by simp [w3]
theorem Empty.new (w : World) : Empty w.heap.size (w.alloc (.cells #[.slice none 0 0] 24)) := ⟨by simp, by simp⟩
theorem Empty.alloc {b : Nat} {w : World} (h : Empty b w) (o : Obj) : Empty b (w.alloc o) := by
  have hb := Below.heap_alloc w o b (World.block_lt_of_cell? _ _ h.c)
  exact ⟨(World.cell?_of_block (a := ⟨b, 0, none⟩) hb).trans h.c, (World.frozen?_of_block (a := ⟨b, 0, none⟩) hb).trans h.f⟩
theorem w3_0 (w : World) : Empty w.heap.size (w3 w) := ((Empty.new w).alloc _).alloc _
theorem w3_1 (w : World) : Empty (w.heap.size + 1) (w3 w) := by
  have h := (Empty.new (w.alloc (.cells #[.slice none 0 0] 24))).alloc (.cells #[.slice none 0 0] 24)
  simpa [w3] using h
theorem w3_2 (w : World) : Empty (w.heap.size + 1 + 1) (w3 w) := by
  have h := Empty.new ((w.alloc (.cells #[.slice none 0 0] 24)).alloc (.cells #[.slice none 0 0] 24))
  simpa [w3] using h

theorem facts (x : Int) : (x % 4294967296 == x % 18446744073709551616 % 4294967296) = true ∧ (x % 256 == x % 4294967296 % 256) = true := by
  constructor
  · rw [beq_iff_eq]; omega
  · rw [beq_iff_eq]; omega
theorem high_neg (x : Int) (h1 : -2147483648 ≤ x) (h : x < 0) : (x % 18446744073709551616 / 4294967296 == 4294967295) = true := by rw [beq_iff_eq]; omega
theorem high_pos (x : Int) (h2 : x ≤ 2147483647) (h : ¬ x < 0) : (x % 18446744073709551616 / 4294967296 == 0) = true := by rw [beq_iff_eq]; omega

set_option maxHeartbeats 1000000 in
theorem law_main (slot x g : Int) (w : World) (h1 : -2147483648 ≤ x) (h2 : x ≤ 2147483647) (hg0 : 0 ≤ g) (hg1 : g ≤ 65536) :
    Calls Try.prog 3 #[.int .i64 slot, .int .i32 x, .int .i64 g] w fun e w' => e = .returned (.bool true) ∧ Below w.heap.size w w' := by
  have E0 := (show Hid (Empty w.heap.size (w3 w)) from w3_0 w)
  have E1 := (show Hid (Empty (w.heap.size + 1) (w3 w)) from w3_1 w)
  have E2 := (show Hid (Empty (w.heap.size + 1 + 1) (w3 w)) from w3_2 w)
  have S := (show Hid ((w3 w).heap.size = w.heap.size + 3) from w3_size w)
  have B3 : Below w.heap.size w (w3 w) := ((((Below.refl _ w).alloc (Nat.le_refl _) _).alloc (by simp) _).alloc (by simp; omega) _)
  go_enter Try.func3, Try.ntmps3
  go_wp2_with fail
  refine (grow_any (w.heap.size + 3) w.heap.size g (w3 w) hg0 hg1 (by omega) (by rw [S.out]; exact Nat.le_refl _) E0.out.c E0.out.f).mono ?_
  rintro e w1 ⟨rfl, ⟨v, hv, hown⟩, hfz, hk1⟩
  have hvb : ∀ k, v.ownBlock = some k → w.heap.size + 3 ≤ k := fun k hk => (hown.lt k hk).1
  have hne1 : some (w.heap.size + 1) ≠ v.ownBlock := fun e => by have := hvb _ e.symm; omega
  have hne2 : some (w.heap.size + 1 + 1) ≠ v.ownBlock := fun e => by have := hvb _ e.symm; omega
  have s1 : w.heap.size + 3 ≤ w1.heap.size := by have := hk1.size; rw [S.out] at this; exact this
  have F1 := (show Hid (Empty (w.heap.size + 1) w1) from E1.out.kept hk1 (by omega) (by simp))
  have F2 := (show Hid (Empty (w.heap.size + 1 + 1) w1) from E2.out.kept hk1 (by omega) (by simp))
  have B1 := (show Hid (Below w.heap.size w w1) from B3.trans (hk1.below (Nat.le_refl _) (by rw [S.out]; omega) (by simp)))
  have HV := (show Hid (w1.cell? ⟨w.heap.size, 0, none⟩ = some v) from hv)
  have HF := (show Hid (w1.frozen? ⟨w.heap.size, 0, none⟩ = false) from hfz)
  have HO := (show Hid (w1.ownsRow (w.heap.size + 3) 40 4 v 0 []) from hown)
  have HB := (show Hid (∀ k, v.ownBlock = some k → w.heap.size + 3 ≤ k) from hvb)
  have HN1 := (show Hid (some (w.heap.size + 1) ≠ v.ownBlock) from hne1)
  have HN2 := (show Hid (some (w.heap.size + 1 + 1) ≠ v.ownBlock) from hne2)
  clear hv hfz hown hk1 E0 E1 E2 B3 hvb hne1 hne2 S
  go_wp2_with fail
  refine (add32_any (w.heap.size + 3) w.heap.size v slot x w1 (by omega) s1 HV.out HF.out HO.out).mono ?_
  rintro e w2 ⟨rfl, o2, hk2⟩
  have s2 : w.heap.size + 3 ≤ w2.heap.size := Nat.le_trans s1 hk2.size
  have G1 := (show Hid (Empty (w.heap.size + 1) w2) from F1.out.kept hk2 (by omega) HN1.out)
  have G2 := (show Hid (Empty (w.heap.size + 1 + 1) w2) from F2.out.kept hk2 (by omega) HN2.out)
  have B2 := (show Hid (Below w.heap.size w w2) from B1.out.trans (hk2.below (Nat.le_refl _) (by omega) (fun k hk => by have := HB.out k hk; omega)))
  have O2 := (show Hid (One (w.heap.size + 3) w.heap.size slot 4 (x % 4294967296) w2) from o2)
  clear o2 hk2 F1 F2 B1 HV HF HO HB HN1 HN2 s1
  go_wp2_with fail
  refine (add64_any (w.heap.size + 3) (w.heap.size + 1) (.slice none 0 0) slot x w2 (by omega) s2 G1.out.c G1.out.f (World.ownsRow_nil _ _ _ _)).mono ?_
  rintro e w5 ⟨rfl, o3, hk3⟩
  have s3 : w.heap.size + 3 ≤ w5.heap.size := Nat.le_trans s2 hk3.size
  have O3 := (show Hid (One (w.heap.size + 3) w.heap.size slot 4 (x % 4294967296) w5) from O2.out.kept hk3 (by omega) (by omega))
  have P3 := (show Hid (One (w.heap.size + 3) (w.heap.size + 1) slot 8 (x % 18446744073709551616) w5) from o3)
  have J2 := (show Hid (Empty (w.heap.size + 1 + 1) w5) from G2.out.kept hk3 (by omega) (by simp [Value.ownBlock]))
  have B5 := (show Hid (Below w.heap.size w w5) from B2.out.trans (hk3.below (by omega) (by omega) (by simp [Value.ownBlock])))
  clear o3 hk3 G1 G2 B2 O2 s2
  go_wp2_with fail
  refine (add8_any (w.heap.size + 3) (w.heap.size + 1 + 1) (.slice none 0 0) slot (x % 256) w5 (by omega) (by omega) (by omega) s3 J2.out.c J2.out.f (World.ownsRow_nil _ _ _ _)).mono ?_
  rintro e w4 ⟨rfl, o4, hk4⟩
  have BW := (show Hid (Below w.heap.size w w4) from B5.out.trans (hk4.below (by omega) (by omega) (by simp [Value.ownBlock])))
  have oa := O3.out.kept hk4 (by omega) (by omega)
  have ob := P3.out.kept hk4 (by omega) (by omega)
  obtain ⟨ga, ca, ha⟩ := oa.cells
  obtain ⟨gb, cb, hb⟩ := ob.cells
  obtain ⟨gc, cc, hc⟩ := o4.cells
  have HA := (show Hid _ from ha)
  have HB := (show Hid _ from hb)
  have HC := (show Hid _ from hc)
  clear ha hb hc oa ob o4 hk4 O3 P3 J2 B5 s3
  obtain ⟨f1, f2⟩ := facts x
  go_wp2_with fail
  refine (count_any w.heap.size _ 1 ca _ HA.out.1).mono ?_
  rintro e w' ⟨rfl, hw⟩
  obtain rfl : w4 = w' := hw.symm
  go_wp2_with fail
  refine (count_any (w.heap.size + 1) _ 1 cb _ HB.out.1).mono ?_
  rintro e w' ⟨rfl, hw⟩
  obtain rfl : w4 = w' := hw.symm
  go_wp2_with fail
  refine (count_any (w.heap.size + 1 + 1) _ 1 cc _ HC.out.1).mono ?_
  rintro e w' ⟨rfl, hw⟩
  obtain rfl : w4 = w' := hw.symm
  go_wp2_with fail
  refine (scalar_any w.heap.size ga ca _ _ HA.out.1 HA.out.2.2.2.1).mono ?_
  rintro e w' ⟨rfl, hw⟩
  obtain rfl : w4 = w' := hw.symm
  go_wp2_with fail
  refine (scalar_any (w.heap.size + 1) gb cb _ _ HB.out.1 HB.out.2.2.2.1).mono ?_
  rintro e w' ⟨rfl, hw⟩
  obtain rfl : w4 = w' := hw.symm
  go_wp2_with fail
  refine (scalar_any (w.heap.size + 1 + 1) gc cc _ _ HC.out.1 HC.out.2.2.2.1).mono ?_
  rintro e w' ⟨rfl, hw⟩
  obtain rfl : w4 = w' := hw.symm
  by_cases hx : x < 0
  · have f3 := high_neg x h1 hx
    go_wp2_with fail
    refine (slot_any w.heap.size ga ca _ _ HA.out.1 HA.out.2.1).mono ?_
    rintro e w' ⟨rfl, hw⟩
    obtain rfl : w4 = w' := hw.symm
    go_wp2_with fail
    refine (slot_any (w.heap.size + 1) gb cb _ _ HB.out.1 HB.out.2.1).mono ?_
    rintro e w' ⟨rfl, hw⟩
    obtain rfl : w4 = w' := hw.symm
    go_wp2_with fail
    refine (slot_any (w.heap.size + 1 + 1) gc cc _ _ HC.out.1 HC.out.2.1).mono ?_
    rintro e w' ⟨rfl, hw⟩
    obtain rfl : w4 = w' := hw.symm
    go_wp2_with fail
    refine (size_any w.heap.size ga ca _ _ HA.out.1 HA.out.2.2.1).mono ?_
    rintro e w' ⟨rfl, hw⟩
    obtain rfl : w4 = w' := hw.symm
    go_wp2_with fail
    refine (size_any (w.heap.size + 1) gb cb _ _ HB.out.1 HB.out.2.2.1).mono ?_
    rintro e w' ⟨rfl, hw⟩
    obtain rfl : w4 = w' := hw.symm
    go_wp2_with fail
    refine (size_any (w.heap.size + 1 + 1) gc cc _ _ HC.out.1 HC.out.2.2.1).mono ?_
    rintro e w' ⟨rfl, hw⟩
    obtain rfl : w4 = w' := hw.symm
    go_wp2_with fail
    refine (bits_any x _ h1 h2).mono ?_
    rintro e w' ⟨rfl, hw⟩
    obtain rfl : w4 = w' := hw.symm
    go_wp2_with fail
    refine (object_any w.heap.size ga ca _ HA.out.1 HA.out.2.2.2.2).mono ?_
    rintro e w' ⟨rfl, hw⟩
    obtain rfl : w4 = w' := hw.symm
    go_wp2
    go_ret
    exact ⟨rfl, BW.out⟩
  · have f3 := high_pos x h2 hx
    go_wp2_with fail
    refine (slot_any w.heap.size ga ca _ _ HA.out.1 HA.out.2.1).mono ?_
    rintro e w' ⟨rfl, hw⟩
    obtain rfl : w4 = w' := hw.symm
    go_wp2_with fail
    refine (slot_any (w.heap.size + 1) gb cb _ _ HB.out.1 HB.out.2.1).mono ?_
    rintro e w' ⟨rfl, hw⟩
    obtain rfl : w4 = w' := hw.symm
    go_wp2_with fail
    refine (slot_any (w.heap.size + 1 + 1) gc cc _ _ HC.out.1 HC.out.2.1).mono ?_
    rintro e w' ⟨rfl, hw⟩
    obtain rfl : w4 = w' := hw.symm
    go_wp2_with fail
    refine (size_any w.heap.size ga ca _ _ HA.out.1 HA.out.2.2.1).mono ?_
    rintro e w' ⟨rfl, hw⟩
    obtain rfl : w4 = w' := hw.symm
    go_wp2_with fail
    refine (size_any (w.heap.size + 1) gb cb _ _ HB.out.1 HB.out.2.2.1).mono ?_
    rintro e w' ⟨rfl, hw⟩
    obtain rfl : w4 = w' := hw.symm
    go_wp2_with fail
    refine (size_any (w.heap.size + 1 + 1) gc cc _ _ HC.out.1 HC.out.2.2.1).mono ?_
    rintro e w' ⟨rfl, hw⟩
    obtain rfl : w4 = w' := hw.symm
    go_wp2_with fail
    refine (bits_any x _ h1 h2).mono ?_
    rintro e w' ⟨rfl, hw⟩
    obtain rfl : w4 = w' := hw.symm
    go_wp2_with fail
    refine (object_any w.heap.size ga ca _ HA.out.1 HA.out.2.2.2.2).mono ?_
    rintro e w' ⟨rfl, hw⟩
    obtain rfl : w4 = w' := hw.symm
    go_wp2
    go_ret
    exact ⟨rfl, BW.out⟩
end Go.Proofs.Qxb6617024a
