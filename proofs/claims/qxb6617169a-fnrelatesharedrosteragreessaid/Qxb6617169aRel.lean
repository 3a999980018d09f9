/-
  WALKS: relation, zzRelationOf, zzMirror; Vector.Relate.
-/
import Derived.Test.Qxb6617169aLawO
import Derived.Deep.RegionWith
import Derived.LaidEqlPtr
namespace Go.Proofs.Qxb6617169a
open Go.RowKit

/-- The four relations. -/
def relI : Bool → Bool → Int
  | true, true => 3
  | true, false => 1
  | false, true => 2
  | false, false => 0
theorem relation_any (l r : Bool) (w : World) : Calls Try.prog 24 #[.bool l, .bool r] w fun e w' => e = .returned (.int .i64 (relI l r)) ∧ w' = w := by
  cases l <;> cases r
  all_goals
    go_enter Try.func24, Try.ntmps24
    go_wp2
    go_ret
    exact ⟨rfl, rfl⟩
theorem relationOf_any (l r : Bool) (w : World) : Calls Try.prog 12 #[.bool l, .bool r] w fun e w' => e = .returned (.int .i64 (relI l r)) ∧ w' = w := by
  cases l <;> cases r
  all_goals
    go_enter Try.func12, Try.ntmps12
    go_wp2
    go_ret
    exact ⟨rfl, rfl⟩
theorem mirror_any (l r : Bool) (w : World) : Calls Try.prog 14 #[.int .i64 (relI l r)] w fun e w' => e = .returned (.int .i64 (relI r l)) ∧ w' = w := by
  cases l <;> cases r
  all_goals
    show Calls Try.prog 14 #[.int .i64 (_ : Int)] w _
    simp only [relI]
    go_enter Try.func14, Try.ntmps14
    go_wp2
    go_ret
    exact ⟨rfl, rfl⟩

/-- A roster that names the slice s, at block r. -/
def RosterIs (w : World) (r : Nat) (s : Value) : Prop := w.heap[r]? = some (.cells #[.string ⟨#[]⟩, s] 44 (0, 0))
theorem RosterIs.lt {w : World} {r : Nat} {s : Value} (h : RosterIs w r s) : r < w.heap.size := (Array.getElem?_eq_some_iff.1 h).1
theorem RosterIs.cell {w : World} {r : Nat} {s : Value} (h : RosterIs w r s) : w.cell? ⟨r, 1, none⟩ = some s := by
  rw [cell_of_row w r 1 _ 44 (0, 0) h]; rfl
theorem RosterIs.later {w w' : World} {r : Nat} {s : Value} (h : RosterIs w r s) (hb : Below w.heap.size w w') : RosterIs w' r s := (hb.block r h.lt).trans h
theorem Try.info44 : (Try.prog.info? 44).map (fun i => (i.size != 0)) = some true := by kernel_rfl
theorem roster_ne {w : World} {r1 r2 : Nat} {a b : Value} (h1 : RosterIs w r1 a) (h2 : RosterIs w r2 b) (hne : r1 ≠ r2) : (binOp .eql 27 (.pointer (some ⟨r1, 0, none⟩)) (.pointer (some ⟨r2, 0, none⟩))).run Try.prog w = .ok (.bool false) w := by
  have hi := Try.info44
  cases hj : Try.prog.info? 44 with
  | none => rw [hj] at hi; cases hi
  | some j =>
    rw [hj] at hi
    exact run_eql_ptr_other w Try.underlying27 hj (by simpa using hi) (fun e => hne (congrArg Addr.block e)) h1 h2
theorem roster_eq {w : World} {r : Nat} : (binOp .eql 27 (.pointer (some ⟨r, 0, none⟩)) (.pointer (some ⟨r, 0, none⟩))).run Try.prog w = .ok (.bool true) w := by
  have hi := Try.info44
  cases hj : Try.prog.info? 44 with
  | none => rw [hj] at hi; cases hi
  | some j => exact run_eql_ptr_same w _ Try.underlying27 hj

set_option maxHeartbeats 400000 in
theorem vector2_any (s1 : Option Addr) (n1 c1 : Nat) (s2 : Option Addr) (n2 c2 : Nat) (w : World) :
    Calls Try.prog 10 #[.slice s1 n1 c1, .slice s2 n2 c2] w fun e w' => e = .returned (.agg #[.pointer (some ⟨w.heap.size + 1, 0, none⟩), .slice s2 n2 c2]) ∧ Below w.heap.size w w' ∧ RosterIs w' (w.heap.size + 1) (.slice s1 n1 c1) := by
  go_enter Try.func10, Try.ntmps10
  go_wp2
  refine bodyPost_ret (v := .agg #[.pointer (some ⟨w.heap.size + 1, 0, none⟩), .slice s2 n2 c2]) (by simp [results, Try.results10, go_sem]) rfl ⟨rfl, ((Below.refl _ w).alloc (Nat.le_refl _) _).alloc (by simp) _, ?_⟩
  have h := heap_alloc_new (w.alloc (.cells #[.pointer (some ⟨w.heap.size + 1, 0, none⟩), .slice s2 n2 c2] 29)) (.cells #[.string ⟨#[]⟩, .slice s1 n1 c1] 44)
  simpa [RosterIs] using h

theorem box2_first (w : World) (p1 x1 p2 x2 : Value) : Boxed w.heap.size p1 x1 (box2 w p1 x1 p2 x2) := (Boxed.new w p1 x1 29).later ((Below.refl _ _).alloc (Nat.le_refl _) _)

set_option maxHeartbeats 1000000 in
theorem relate_two (r1 r2 : Nat) (sa : Option Addr) (n ca : Nat) (s1 : Option Addr) (c1 : Nat) (sb : Option Addr) (m cb : Nat) (s2 : Option Addr) (c2 : Nat) (f g : Nat → ByteArray) (x y : Nat → Int) (w : World)
    (hr : r1 ≠ r2) (hn : n ≤ 4096) (hm : m ≤ 4096) (hr1 : RosterIs w r1 (.slice sa n ca)) (hr2 : RosterIs w r2 (.slice sb m cb))
    (hna : n ≤ ca) (hn1 : n ≤ c1) (hmb : m ≤ cb) (hm2 : m ≤ c2)
    (hA : Strs w w.heap.size sa n f) (hX : Nums w w.heap.size s1 n x) (hB : Strs w w.heap.size sb m g) (hY : Nums w w.heap.size s2 m y) (hf : Rises f n) (hg : Rises g m) (hx : ∀ a, a < n → 0 ≤ x a) (hy : ∀ a, a < m → 0 ≤ y a) :
    Calls Try.prog 13 #[.agg #[.pointer (some ⟨r1, 0, none⟩), .slice s1 n c1], .agg #[.pointer (some ⟨r2, 0, none⟩), .slice s2 m c2]] w fun e w' =>
      e = .returned (.int .i64 (relI (abv g y f x n m) (abv f x g y m n))) ∧ Below w.heap.size w w' := by
  have HA := hid hA
  have HX := hid hX
  have HB := hid hB
  have HY := hid hY
  have HF := hid hf
  have HG := hid hg
  have HXX := hid hx
  have HYY := hid hy
  have HR1 := hid hr1
  have HR2 := hid hr2
  have B2 := box2_below w (.pointer (some ⟨r1, 0, none⟩)) (.slice s1 n c1) (.pointer (some ⟨r2, 0, none⟩)) (.slice s2 m c2)
  have hpe : ∀ q, (binOp .eql 27 (.pointer (some ⟨r1, 0, none⟩)) (.pointer (some ⟨r2, 0, none⟩))).run Try.prog (((w.alloc (.cells #[.pointer (some ⟨r1, 0, none⟩), .slice s1 n c1] 29)).alloc (.cells #[.pointer (some ⟨r2, 0, none⟩), .slice s2 m c2] 29)).drewN q) = .ok (.bool false) (((w.alloc (.cells #[.pointer (some ⟨r1, 0, none⟩), .slice s1 n c1] 29)).alloc (.cells #[.pointer (some ⟨r2, 0, none⟩), .slice s2 m c2] 29)).drewN q) :=
    fun q => roster_ne (w := (box2 w (.pointer (some ⟨r1, 0, none⟩)) (.slice s1 n c1) (.pointer (some ⟨r2, 0, none⟩)) (.slice s2 m c2)).drewN q) (hr1.later (below_drewN B2 q)) (hr2.later (below_drewN B2 q)) hr
  have BB := hid B2
  clear hA hX hB hY hf hg hx hy hr1 hr2 B2
  go_enter Try.func13, Try.ntmps13
  go_wp2
  go_quiet (fail)
  go_upto_region 14 with fail
  have X1 := hid (Boxed.later (box2_first w (.pointer (some ⟨r1, 0, none⟩)) (.slice s1 n c1) (.pointer (some ⟨r2, 0, none⟩)) (.slice s2 m c2)) (below_drewN (Below.refl _ _) nq))
  have X2 := hid (Boxed.later (box2_second w (.pointer (some ⟨r1, 0, none⟩)) (.slice s1 n c1) (.pointer (some ⟨r2, 0, none⟩)) (.slice s2 m c2)) (below_drewN (Below.refl _ _) nq))
  have BW := hid (below_drewN BB.out nq)
  change Code.wp _ _ _ _ ((box2 w (.pointer (some ⟨r1, 0, none⟩)) (.slice s1 n c1) (.pointer (some ⟨r2, 0, none⟩)) (.slice s2 m c2)).drewN nq)
  generalize (box2 w (.pointer (some ⟨r1, 0, none⟩)) (.slice s1 n c1) (.pointer (some ⟨r2, 0, none⟩)) (.slice s2 m c2)).drewN nq = W at *
  clear hpe BB
  have hl1 : r1 < W.heap.size := Nat.lt_of_lt_of_le HR1.out.lt BW.out.size
  have hl2 : r2 < W.heap.size := Nat.lt_of_lt_of_le HR2.out.lt BW.out.size
  have hk1 := (HR1.out.later BW.out).cell
  have hk2 := (HR2.out.later BW.out).cell
  have y1 := X1.out.c0
  have y2 := X1.out.c1
  have y3 := X2.out.c0
  have y4 := X2.out.c1
  have hs : w.heap.size + 1 < W.heap.size := World.block_lt_of_cell? _ _ y3
  have hs0 : w.heap.size < W.heap.size := by omega
  clear X1 X2
  go_cut [11, 12] (fun a b wx => a = .slice sa n ca ∧ b = .slice sb m cb ∧ Below w.heap.size w wx)
  case first =>
    go_region_with (first
      | (go_at_call_of 25 (Value.pointer (some (Addr.mk r1 0 none))); refine (names_any r1 sa n ca s1 n c1 _ ?_).mono ?_; (go_simp); rintro e w' ⟨rfl, rfl⟩)
      | (go_at_call_of 25 (Value.pointer (some (Addr.mk r2 0 none))); refine (names_any r2 sb m cb s2 m c2 _ ?_).mono ?_; (go_simp); rintro e w' ⟨rfl, rfl⟩))
    all_goals
      go_wp2
      go_meet
      case rel => exact ⟨rfl, rfl, (((BW.out.alloc (by omega) _).alloc (by simp; omega) _).drew)⟩
  case rest =>
  obtain ⟨rfl, rfl, hbc⟩ := hcut
  obtain ⟨w2, rfl⟩ : ∃ w2 : World, w2 = wc := ⟨_, rfl⟩
  have D2 := hid hbc
  have TA := hid ((HA.out.later hbc).mono hbc.size)
  have TX := hid ((HX.out.later hbc).mono hbc.size)
  have TB := hid ((HB.out.later hbc).mono hbc.size)
  have TY := hid ((HY.out.later hbc).mono hbc.size)
  clear hbc HA HX HB HY BW hk1 hk2 y1 y2 y3 y4 hs hs0 hl1 hl2 HR1 HR2
  by_cases hle : n ≤ m
  · go_wp2_with fail
    refine (outrank_below sa n ca s1 c1 sb m cb s2 c2 f g x y w2.heap.size w2 (by omega) (by omega) hmb hm2 TA.out TX.out TB.out TY.out HF.out HG.out HXX.out).mono ?_
    rintro e w3 ⟨rfl, hb3⟩
    have D3 := hid (D2.out.trans (hb3.mono D2.out.size))
    clear hb3
    go_wp2_with fail
    refine (relation_any _ _ _).mono ?_
    rintro e w' ⟨rfl, rfl⟩
    go_wp2
    go_ret
    exact ⟨rfl, D3.out⟩
  · go_wp2_with fail
    refine (outrank_below sb m cb s2 c2 sa n ca s1 c1 g f y x w2.heap.size w2 (by omega) (by omega) hna hn1 TB.out TY.out TA.out TX.out HG.out HF.out HYY.out).mono ?_
    rintro e w3 ⟨rfl, hb3⟩
    have D3 := hid (D2.out.trans (hb3.mono D2.out.size))
    clear hb3
    go_wp2_with fail
    refine (relation_any _ _ _).mono ?_
    rintro e w' ⟨rfl, rfl⟩
    go_wp2
    go_ret
    exact ⟨rfl, D3.out⟩
end Go.Proofs.Qxb6617169a
