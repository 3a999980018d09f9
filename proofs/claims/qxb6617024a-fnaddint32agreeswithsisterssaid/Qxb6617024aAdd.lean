import Derived.Test.Qxb6617024aRows
import Derived.WalkKit
import Derived.WalkSpells
import Derived.Lib.AppendZeros
namespace Go.Proofs.Qxb6617024a
open Go.RowKit

theorem Try.info40 : (Try.prog.info? 40).map (fun i => (i.zero, i.size, i.bytes)) = some (some (.agg #[.int .i64 0, .int .i64 0, .int .u64 0, .nilFunc]), 4, 32) := by kernel_rfl

/-- All blocks but b and the row are as they were. -/
structure Kept2 (w w' : World) (b : Nat) (row : Option Nat) : Prop where
  os : w'.os = w.os
  tape : w'.tape = w.tape
  output : w'.output = w.output
  size : w.heap.size ≤ w'.heap.size
  block : ∀ k, k < w.heap.size → k ≠ b → some k ≠ row → w'.heap[k]? = w.heap[k]?

/-- What an append that was stored into b's field leaves. -/
theorem kept2_store {w w1 : World} {o : Obj} {b : Nat} {v : Value} {row : Option Nat} (hg : (w.alloc o).grownBy w1 row) : Kept2 w (w1.setCell ⟨b, 0, none⟩ v) b row := by
  refine ⟨hg.os, hg.tape, hg.output, ?_, ?_⟩
  · have := hg.size
    simp [World.setCell] at this ⊢
    omega
  · intro k hk hne hr
    rw [Below.heap_setCell _ _ _ _ (by simpa using hne), hg.block k (by simp; omega) hr]
    exact Below.heap_alloc _ _ _ hk

theorem ownsRow_form {w : World} {base : Nat} {v : Value} {xs : List Value} (h : w.ownsRow base 40 4 v 1 xs) : ∃ g cap, v = .slice (some ⟨g, 0, none⟩) 1 cap ∧ base ≤ g := by
  rcases h.2 with ⟨_, h0⟩ | ⟨g, cap, cur, rfl, hb, _⟩
  · omega
  · exact ⟨g, cap, rfl, hb⟩

/-- b holds one field. -/
def One (base b : Nat) (slot size val : Int) (w : World) : Prop :=
  ∃ g cap, w.cell? ⟨b, 0, none⟩ = some (.slice (some ⟨g, 0, none⟩) 1 cap) ∧ w.ownsRow base 40 4 (.slice (some ⟨g, 0, none⟩) 1 cap) 1 [.int .i64 slot, .int .i64 size, .int .u64 val, .nilFunc]

set_option maxHeartbeats 400000 in
theorem addScalar_any (base b : Nat) (v : Value) (slot size val : Int) (w : World) (hb : b < base) (hbase : base ≤ w.heap.size) (hc : w.cell? ⟨b, 0, none⟩ = some v) (hfz : w.frozen? ⟨b, 0, none⟩ = false) (hown : w.ownsRow base 40 4 v 0 []) :
    Calls Try.prog 15 #[.pointer (some ⟨b, 0, none⟩), .int .i64 slot, .int .i64 size, .int .u64 val] w fun e w' => e = .returned (.tuple #[]) ∧ One base b slot size val w' ∧ Kept2 w w' b v.ownBlock := by
  obtain ⟨i0, hi, hz0, hz1, hz2⟩ := info_parts Try.info40
  have HO : Hid (w.ownsRow base 40 4 v 0 []) := hown
  have HL : Hid (∀ k, v.ownBlock = some k → b ≠ k) := fun k hk => by have := (hown.lt k hk).1; omega
  have hbs : b < w.heap.size := by omega
  clear hown
  go_enter Try.func15, Try.ntmps15
  go_wp2_with (at_builtin; refine wpList_append_own _ rfl _ _ 22 rfl base 40 i0 (.agg #[.int .i64 0, .int .i64 0, .int .u64 0, .nilFunc]) 4 32 Try.underlying22 hi hz0 hz1 hz2 rfl (by decide) v 0 [] rfl (HO.out.alloc _) ⟨w.heap.size, 0, none⟩ 1 1 [.int .i64 slot, .int .i64 size, .int .u64 val, .nilFunc] rfl rfl ?c1 ?c2 ?c3 ?c4 ?c5 ?_)
  case c1 =>
    intro j u hj
    match j, hj with
    | 0, hj => simp at hj; subst hj; simp [Addr.add]
    | 1, hj => simp at hj; subst hj; simp [Addr.add]
    | 2, hj => simp at hj; subst hj; simp [Addr.add]
    | 3, hj => simp at hj; subst hj; simp [Addr.add]
  case c2 =>
    intro u hu
    simp at hu
    rcases hu with rfl | rfl | rfl | rfl <;> rfl
  case c3 => unfold maxLen; omega
  case c4 => omega
  case c5 => simp; omega
  intro v' w1 hown' hgrow _
  have hex : ∃ g cap, v' = .slice (some ⟨g, 0, none⟩) 1 cap ∧ base ≤ g := ownsRow_form hown'
  obtain ⟨g, cap, hv, hgb⟩ := hex
  rw [hv] at hown' ⊢
  have hfz1 : w1.frozen? ⟨b, 0, none⟩ = false := by
    have h := (hgrow.block b (by simp; omega) (fun e => HL.out b e.symm rfl)).trans (Below.heap_alloc _ _ _ hbs)
    rw [World.frozen?_of_block (a := ⟨b, 0, none⟩) h]
    exact hfz
  have hc1 : w1.cell? ⟨b, 0, none⟩ = some v := by
    have h := (hgrow.block b (by simp; omega) (fun e => HL.out b e.symm rfl)).trans (Below.heap_alloc _ _ _ hbs)
    rw [World.cell?_of_block (a := ⟨b, 0, none⟩) h]
    exact hc
  have HO' := (show Hid _ from hown')
  have HG := (show Hid _ from hgrow)
  clear hown' hgrow hc hfz hv
  go_wp2
  go_end0
  exact ⟨rfl, ⟨g, cap, World.cell?_setCell_same _ _ _ hc1, ownsRow_setCell_below HO'.out hb _⟩, kept2_store HG.out⟩

/-! ### The three Add methods -/
set_option maxHeartbeats 400000 in
theorem add32_any (base b : Nat) (v : Value) (slot x : Int) (w : World) (hb : b < base) (hbase : base ≤ w.heap.size) (hc : w.cell? ⟨b, 0, none⟩ = some v) (hfz : w.frozen? ⟨b, 0, none⟩ = false) (hown : w.ownsRow base 40 4 v 0 []) :
    Calls Try.prog 5 #[.pointer (some ⟨b, 0, none⟩), .int .i64 slot, .int .i32 x] w fun e w' => e = .returned (.tuple #[]) ∧ One base b slot 4 (x % 4294967296) w' ∧ Kept2 w w' b v.ownBlock := by
  have HO := (show Hid (w.ownsRow base 40 4 v 0 []) from hown)
  have HC := (show Hid (w.cell? ⟨b, 0, none⟩ = some v) from hc)
  have HZ := (show Hid (w.frozen? ⟨b, 0, none⟩ = false) from hfz)
  clear hc hfz hown
  go_enter Try.func5, Try.ntmps5
  go_wp2_with fail
  refine (addScalar_any base b v slot 4 (x % 4294967296) w hb hbase HC.out HZ.out HO.out).mono ?_
  rintro e w' ⟨rfl, h1, h2⟩
  go_wp2
  go_end0
  exact ⟨rfl, h1, h2⟩

set_option maxHeartbeats 400000 in
theorem add64_any (base b : Nat) (v : Value) (slot x : Int) (w : World) (hb : b < base) (hbase : base ≤ w.heap.size) (hc : w.cell? ⟨b, 0, none⟩ = some v) (hfz : w.frozen? ⟨b, 0, none⟩ = false) (hown : w.ownsRow base 40 4 v 0 []) :
    Calls Try.prog 6 #[.pointer (some ⟨b, 0, none⟩), .int .i64 slot, .int .i64 x] w fun e w' => e = .returned (.tuple #[]) ∧ One base b slot 8 (x % 18446744073709551616) w' ∧ Kept2 w w' b v.ownBlock := by
  have HO := (show Hid (w.ownsRow base 40 4 v 0 []) from hown)
  have HC := (show Hid (w.cell? ⟨b, 0, none⟩ = some v) from hc)
  have HZ := (show Hid (w.frozen? ⟨b, 0, none⟩ = false) from hfz)
  clear hc hfz hown
  go_enter Try.func6, Try.ntmps6
  go_wp2_with fail
  refine (addScalar_any base b v slot 8 (x % 18446744073709551616) w hb hbase HC.out HZ.out HO.out).mono ?_
  rintro e w' ⟨rfl, h1, h2⟩
  go_wp2
  go_end0
  exact ⟨rfl, h1, h2⟩

set_option maxHeartbeats 400000 in
theorem add8_any (base b : Nat) (v : Value) (slot x : Int) (w : World) (h1 : 0 ≤ x) (h2 : x ≤ 255) (hb : b < base) (hbase : base ≤ w.heap.size) (hc : w.cell? ⟨b, 0, none⟩ = some v) (hfz : w.frozen? ⟨b, 0, none⟩ = false) (hown : w.ownsRow base 40 4 v 0 []) :
    Calls Try.prog 7 #[.pointer (some ⟨b, 0, none⟩), .int .i64 slot, .int .u8 x] w fun e w' => e = .returned (.tuple #[]) ∧ One base b slot 1 (x) w' ∧ Kept2 w w' b v.ownBlock := by
  have HO := (show Hid (w.ownsRow base 40 4 v 0 []) from hown)
  have HC := (show Hid (w.cell? ⟨b, 0, none⟩ = some v) from hc)
  have HZ := (show Hid (w.frozen? ⟨b, 0, none⟩ = false) from hfz)
  clear hc hfz hown
  go_enter Try.func7, Try.ntmps7
  go_wp2_with fail
  refine (addScalar_any base b v slot 1 (x) w hb hbase HC.out HZ.out HO.out).mono ?_
  rintro e w' ⟨rfl, h1, h2⟩
  go_wp2
  go_end0
  exact ⟨rfl, h1, h2⟩

end Go.Proofs.Qxb6617024a
