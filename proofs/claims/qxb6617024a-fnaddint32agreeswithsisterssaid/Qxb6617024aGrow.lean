import Derived.Test.Qxb6617024aAdd
namespace Go.Proofs.Qxb6617024a
open Go.RowKit

theorem sgrow_zero (w : World) : Calls Try.prog 14 #[.slice none 0 0, .int .i64 0] w fun e w' => e = .returned (.slice none 0 0) ∧ w' = w := by
  go_enter Try.func14, Try.ntmps14
  go_wp2
  go_ret
  exact ⟨rfl, rfl⟩

/-- The row that Grow lays. -/
theorem grown_owns (w : World) (base n c : Nat) (hb : base ≤ w.heap.size) (hn : n ≤ c) (hc : c ≤ maxLen) :
    ((w.alloc (.cells (Builtin.zeroCells (Value.agg #[.int .i64 0, .int .i64 0, .int .u64 0, .nilFunc]).cells n ++ Builtin.zeroCells (Value.agg #[.int .i64 0, .int .i64 0, .int .u64 0, .nilFunc]).cells (c - n)) 40)).drew).ownsRow base 40 4 (.slice (some ⟨w.heap.size, 0, none⟩) 0 c) 0 [] := by
  have h := World.ownsRow_made (e := 40) (size := 4) w (Builtin.zeroCells (Value.agg #[.int .i64 0, .int .i64 0, .int .u64 0, .nilFunc]).cells n ++ Builtin.zeroCells (Value.agg #[.int .i64 0, .int .i64 0, .int .u64 0, .nilFunc]).cells (c - n)) c hb hc (by
    simp [size_zeroCells, Value.cells]; omega)
  exact h

set_option maxHeartbeats 400000 in
theorem sgrow_pos (base : Nat) (n : Nat) (w : World) (h0 : 0 < n) (hn : n ≤ 65536) (hbase : base ≤ w.heap.size) :
    Calls Try.prog 14 #[.slice none 0 0, .int .i64 (n : Int)] w fun e w' => (∃ c, e = .returned (.slice (some ⟨w.heap.size, 0, none⟩) 0 c) ∧ w'.ownsRow base 40 4 (.slice (some ⟨w.heap.size, 0, none⟩) 0 c) 0 []) ∧ w.grownBy w' none := by
  obtain ⟨i0, hi, hz0, hz1, hz2⟩ := info_parts Try.info40
  have hn' : (0 : Int) < (n : Int) := by omega
  have hap := fun ty => Lib.run_append_nil_zeros (P := Try.prog) w 22 3 ty 40 i0 _ .i64 .i64 Try.underlying22 Try.underlying3 hi hz0 n h0 (by omega) (by omega) (by rw [hz2]; omega)
  have HC : Hid (n ≤ grownCap w n 0 40 ∧ grownCap w n 0 40 ≤ maxLen) := ⟨grownCap_ge _ _ _ _, grownCap_le_maxLen _ _ _ _ (by unfold maxLen; omega)⟩
  have HA := (show Hid _ from hap)
  clear hap
  generalize grownCap w n 0 40 = c at *
  have hc := HC.out.1
  go_enter Try.func14, Try.ntmps14
  go_wp2_with (at_builtin; refine Lib.wpList_append_run _ rfl _ _ _ _ rfl _ _ rfl rfl _ _ (HA.out _) ?_)
  go_ret
  refine ⟨⟨c, rfl, ?_⟩, ?_⟩
  · exact grown_owns w base n c hbase HC.out.1 HC.out.2
  · obtain ⟨a, b, c, d, e⟩ := World.grownBy_alloc w (.cells (Builtin.zeroCells #[.int .i64 0, .int .i64 0, .int .u64 0, .nilFunc] n ++ Builtin.zeroCells #[.int .i64 0, .int .i64 0, .int .u64 0, .nilFunc] (c - n)) 40) none
    exact ⟨a, b, c, d, e⟩

/-- Builder.Grow on a Builder without fields. -/
theorem grow_any (base b : Nat) (n : Int) (w : World) (h0 : 0 ≤ n) (hn : n ≤ 65536) (hb : b < base) (hbase : base ≤ w.heap.size) (hc : w.cell? ⟨b, 0, none⟩ = some (.slice none 0 0)) (hfz : w.frozen? ⟨b, 0, none⟩ = false) :
    Calls Try.prog 4 #[.pointer (some ⟨b, 0, none⟩), .int .i64 n] w fun e w' => e = .returned (.tuple #[]) ∧ (∃ v, w'.cell? ⟨b, 0, none⟩ = some v ∧ w'.ownsRow base 40 4 v 0 []) ∧ w'.frozen? ⟨b, 0, none⟩ = false ∧ Kept2 w w' b none := by
  by_cases hz : n = 0
  · subst hz
    go_enter Try.func4, Try.ntmps4
    go_wp2_with (go_at_call 14; refine (sgrow_zero _).mono ?_; rintro e w' ⟨rfl, rfl⟩)
    go_end0
    refine ⟨rfl, ⟨_, World.cell?_setCell_same _ _ _ hc, World.ownsRow_nil _ _ _ _⟩, by simpa using hfz, ⟨rfl, rfl, rfl, by simp [World.setCell], ?_⟩⟩
    intro k _ hk _
    exact Below.heap_setCell _ _ _ _ (by simpa using hk)
  · obtain ⟨m, rfl⟩ := Int.eq_ofNat_of_zero_le h0
    have HC := (show Hid (w.cell? ⟨b, 0, none⟩ = some (.slice none 0 0)) from hc)
    have HZ := (show Hid (w.frozen? ⟨b, 0, none⟩ = false) from hfz)
    have hbs : b < w.heap.size := by omega
    go_enter Try.func4, Try.ntmps4
    go_wp2_with fail
    refine (sgrow_pos base m w (by omega) (by omega) hbase).mono ?_
    rintro e w1 ⟨⟨c, rfl, hown⟩, hg⟩
    have hblk := hg.block b hbs (by simp)
    have hc1 : w1.cell? ⟨b, 0, none⟩ = some (.slice none 0 0) := (World.cell?_of_block (a := ⟨b, 0, none⟩) hblk).trans hc
    have hfz1 : w1.frozen? ⟨b, 0, none⟩ = false := (World.frozen?_of_block (a := ⟨b, 0, none⟩) hblk).trans hfz
    have HO := (show Hid (w1.ownsRow base 40 4 (.slice (some ⟨w.heap.size, 0, none⟩) 0 c) 0 []) from hown)
    have HG := (show Hid _ from hg)
    clear hown hg hblk hc hfz
    go_wp2
    go_end0
    refine ⟨rfl, ⟨_, World.cell?_setCell_same _ _ _ hc1, ownsRow_setCell_below HO.out hb _⟩, by simpa using hfz1, ⟨HG.out.os, HG.out.tape, HG.out.output, by have := HG.out.size; simp [World.setCell]; omega, ?_⟩⟩
    intro k hk hkb _
    rw [Below.heap_setCell _ _ _ _ (by simpa using hkb)]
    exact HG.out.block k hk (by simp)

/-! ### The readers -/
theorem count_any (b : Nat) (a : Addr) (n c : Nat) (w : World) (hc : w.cell? ⟨b, 0, none⟩ = some (.slice (some a) n c)) :
    Calls Try.prog 8 #[.pointer (some ⟨b, 0, none⟩)] w fun e w' => e = .returned (.int .i64 (n : Int)) ∧ w' = w := by
  go_enter Try.func8, Try.ntmps8
  go_wp2
  go_ret
  exact ⟨rfl, rfl⟩
theorem scalar_any (b g c : Nat) (x : Int) (w : World) (hc : w.cell? ⟨b, 0, none⟩ = some (.slice (some ⟨g, 0, none⟩) 1 c)) (hx : w.cell? ⟨g, 2, none⟩ = some (.int .u64 x)) :
    Calls Try.prog 9 #[.pointer (some ⟨b, 0, none⟩), .int .i64 0] w fun e w' => e = .returned (.int .u64 x) ∧ w' = w := by
  go_enter Try.func9, Try.ntmps9
  go_wp2
  go_ret
  exact ⟨rfl, rfl⟩
theorem slot_any (b g c : Nat) (x : Int) (w : World) (hc : w.cell? ⟨b, 0, none⟩ = some (.slice (some ⟨g, 0, none⟩) 1 c)) (hx : w.cell? ⟨g, 0, none⟩ = some (.int .i64 x)) :
    Calls Try.prog 10 #[.pointer (some ⟨b, 0, none⟩), .int .i64 0] w fun e w' => e = .returned (.int .i64 x) ∧ w' = w := by
  go_enter Try.func10, Try.ntmps10
  go_wp2
  go_ret
  exact ⟨rfl, rfl⟩
theorem size_any (b g c : Nat) (x : Int) (w : World) (hc : w.cell? ⟨b, 0, none⟩ = some (.slice (some ⟨g, 0, none⟩) 1 c)) (hx : w.cell? ⟨g, 1, none⟩ = some (.int .i64 x)) :
    Calls Try.prog 11 #[.pointer (some ⟨b, 0, none⟩), .int .i64 0] w fun e w' => e = .returned (.int .i64 x) ∧ w' = w := by
  go_enter Try.func11, Try.ntmps11
  go_wp2
  go_ret
  exact ⟨rfl, rfl⟩
theorem Try.neqFunc (w : World) : (binOp .neq 38 .nilFunc .nilFunc).run Try.prog w = .ok (.bool false) w := by kernel_rfl
theorem object_any (b g c : Nat) (w : World) (hc : w.cell? ⟨b, 0, none⟩ = some (.slice (some ⟨g, 0, none⟩) 1 c)) (hx : w.cell? ⟨g, 3, none⟩ = some .nilFunc) :
    Calls Try.prog 13 #[.pointer (some ⟨b, 0, none⟩), .int .i64 0] w fun e w' => e = .returned (.bool false) ∧ w' = w := by
  have hq := Try.neqFunc
  go_enter Try.func13, Try.ntmps13
  go_wp2
  go_ret
  exact ⟨rfl, rfl⟩
theorem bits_any (x : Int) (w : World) (h1 : -2147483648 ≤ x) (h2 : x ≤ 2147483647) :
    Calls Try.prog 12 #[.int .i32 x] w fun e w' => e = .returned (.int .u64 (x % 4294967296)) ∧ w' = w := by
  by_cases hn : x < 0
  · have e : x % 4294967296 = x + 4294967296 := by omega
    rw [e]
    clear e
    go_enter Try.func12, Try.ntmps12
    go_wp2
    go_ret
    exact ⟨rfl, rfl⟩
  · have e : x % 4294967296 = x := by omega
    rw [e]
    clear e
    go_enter Try.func12, Try.ntmps12
    go_wp2
    go_ret
    exact ⟨rfl, rfl⟩
end Go.Proofs.Qxb6617024a
