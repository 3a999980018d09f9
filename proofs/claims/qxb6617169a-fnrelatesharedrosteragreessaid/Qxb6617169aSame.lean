/-
  WALKS: zzBytes_FnRelateSharedRosterAgrees; ZZVectorPair; Relate on one roster.
-/
import Derived.Test.Qxb6617169aRel
namespace Go.Proofs.Qxb6617169a
open Go.RowKit

set_option maxHeartbeats 1000000 in
theorem bytes15_any (sa : Option Addr) (na ca : Nat) (s1 : Option Addr) (n1 c1 : Nat) (s2 : Option Addr) (n2 c2 : Nat) (B : Nat) (f : Nat → ByteArray) (w : World) (hA : Strs w B sa na f) :
    Calls Try.prog 15 #[.slice sa na ca, .slice s1 n1 c1, .slice s2 n2 c2] w fun e w' => SomeBool e ∧ w' = w := by
  have HA : Hid (Strs w B sa na f) := hA
  clear hA
  by_cases hna : na ≤ 1048576
  · go_enter Try.func15, Try.ntmps15
    go_wp2
    go_loop [7, 8] (fun t i => ∃ (j : Nat) (z : Int), j ≤ na ∧ i = .int .i64 (j : Int) ∧ t = .int .i64 z) (fun _ i => na - (intOf i).toNat)
    case atStart => exact ⟨0, _, by omega, rfl, rfl⟩
    case round =>
      obtain ⟨j, z, hj, rfl, rfl⟩ := hrel
      by_cases hlt : j < na
      · obtain ⟨b, off, rfl, _, hc⟩ := HA.out j hlt
        have hlt' : (j : Int) < (na : Int) := by omega
        go_wp2
        · go_ret; exact ⟨SomeBool.mk _, rfl⟩
        · go_ret; exact ⟨SomeBool.mk _, rfl⟩
        · go_round
          case rel => exact ⟨j + 1, _, by omega, by go_num, rfl⟩
          case measure => simp [intOf]; omega
      · go_wp2
        all_goals (go_ret; exact ⟨SomeBool.mk _, rfl⟩)
  · go_enter Try.func15, Try.ntmps15
    go_wp2
    go_ret; exact ⟨SomeBool.mk _, rfl⟩

set_option maxHeartbeats 400000 in
theorem pair_any (s0 : Option Addr) (n0 c0 : Nat) (s1 : Option Addr) (n1 c1 : Nat) (s2 : Option Addr) (n2 c2 : Nat) (w : World) :
    Calls Try.prog 16 #[.slice s0 n0 c0, .slice s1 n1 c1, .slice s2 n2 c2] w fun e w' =>
      e = .returned (.tuple #[.agg #[.pointer (some ⟨w.heap.size + 1 + 1, 0, none⟩), .slice s1 n1 c1], .agg #[.pointer (some ⟨w.heap.size + 1 + 1, 0, none⟩), .slice s2 n2 c2]]) ∧ Below w.heap.size w w' ∧ RosterIs w' (w.heap.size + 1 + 1) (.slice s0 n0 c0) := by
  go_enter Try.func16, Try.ntmps16
  go_wp2
  refine bodyPost_ret (v := .tuple #[.agg #[.pointer (some ⟨w.heap.size + 1 + 1, 0, none⟩), .slice s1 n1 c1], .agg #[.pointer (some ⟨w.heap.size + 1 + 1, 0, none⟩), .slice s2 n2 c2]]) (by simp [results, Try.results16, go_sem]) rfl ⟨rfl, (((Below.refl _ w).alloc (Nat.le_refl _) _).alloc (by simp) _).alloc (by simp; omega) _, ?_⟩
  have h := heap_alloc_new ((w.alloc (.cells #[.pointer (some ⟨w.heap.size + 1 + 1, 0, none⟩), .slice s1 n1 c1] 29)).alloc (.cells #[.pointer (some ⟨w.heap.size + 1 + 1, 0, none⟩), .slice s2 n2 c2] 29)) (.cells #[.string ⟨#[]⟩, .slice s0 n0 c0] 44)
  simpa [RosterIs] using h

/-- Some count of the first i of x is below y's at the same place. -/
def ltb (x y : Nat → Int) : Nat → Bool
  | 0 => false
  | i + 1 => ltb x y i || decide (x i < y i)
theorem abv_same {f : Nat → ByteArray} {x y : Nat → Int} {n : Nat} (hf : Rises f n) : ∀ {i : Nat}, i ≤ n → abv f y f x n i = ltb x y i
  | 0, _ => rfl
  | i + 1, h => by rw [abv, ltb, abv_same hf (by omega), cnt_rises hf (by omega)]

theorem run_head (sv : Option Addr) (n c : Nat) (h : n ≤ c) (wx : World) :
    (Instr.slice 23 (.slice sv n c) none (some (.int .i64 (n : Int))) none).run Try.prog wx = .ok (.slice sv n c) wx := by
  rw [run_slice_h wx 23 sv n c Try.underlying23 .i64 (n : Int) (by omega) (by omega), size23]
  cases sv <;> simp [Result.andThen, sliced, Addr.add]

set_option maxHeartbeats 1000000 in
theorem relate_same (r : Nat) (n : Nat) (s1 : Option Addr) (c1 : Nat) (s2 : Option Addr) (c2 : Nat) (f : Nat → ByteArray) (x y : Nat → Int) (w : World)
    (hn : n ≤ 4096) (hn2 : n ≤ c2) (hX : Nums w w.heap.size s1 n x) (hY : Nums w w.heap.size s2 n y) (hf : Rises f n) :
    Calls Try.prog 13 #[.agg #[.pointer (some ⟨r, 0, none⟩), .slice s1 n c1], .agg #[.pointer (some ⟨r, 0, none⟩), .slice s2 n c2]] w fun e w' =>
      e = .returned (.int .i64 (relI (abv f y f x n n) (abv f x f y n n))) ∧ Below w.heap.size w w' := by
  have HX := hid hX
  have HY := hid hY
  have E1 := hid (abv_same (x := x) (y := y) hf (Nat.le_refl n))
  have E2 := hid (abv_same (x := y) (y := x) hf (Nat.le_refl n))
  have hpe := fun wx => roster_eq (w := wx) (r := r)
  have hsl := run_head s2 n c2 hn2
  have BB := hid (box2_below w (.pointer (some ⟨r, 0, none⟩)) (.slice s1 n c1) (.pointer (some ⟨r, 0, none⟩)) (.slice s2 n c2))
  clear hX hY hf
  rw [E1.out, E2.out]
  go_enter Try.func13, Try.ntmps13
  go_wp2
  go_quiet (fail)
  go_wp2
  have BW := hid (below_drewN BB.out nq)
  change Code.wp _ _ _ _ ((box2 w (.pointer (some ⟨r, 0, none⟩)) (.slice s1 n c1) (.pointer (some ⟨r, 0, none⟩)) (.slice s2 n c2)).drewN nq)
  generalize (box2 w (.pointer (some ⟨r, 0, none⟩)) (.slice s1 n c1) (.pointer (some ⟨r, 0, none⟩)) (.slice s2 n c2)).drewN nq = W at *
  have TX := hid ((HX.out.later BW.out).mono BW.out.size)
  have TY := hid ((HY.out.later BW.out).mono BW.out.size)
  clear HX HY BB hpe hsl E1 E2
  go_loop [5, 6, 28] (fun l m i => ∃ j : Nat, j ≤ n ∧ i = .int .i64 (j : Int) ∧ l = .bool (ltb x y j) ∧ m = .bool (ltb y x j)) (fun _ _ i => n - (intOf i).toNat)
  case atStart => exact ⟨0, by omega, rfl, rfl, rfl⟩
  case round =>
    obtain ⟨j, hj, rfl, rfl, rfl⟩ := hrel
    by_cases hlt : j < n
    · obtain ⟨b, off, rfl, _, hc⟩ := TX.out j hlt
      obtain ⟨b', off', rfl, _, hc'⟩ := TY.out j hlt
      have hlt' : (j : Int) < (n : Int) := by omega
      have HL := hid (p := ltb x y (j + 1) = (ltb x y j || decide (x j < y j))) rfl
      have HR := hid (p := ltb y x (j + 1) = (ltb y x j || decide (y j < x j))) rfl
      rcases Int.lt_trichotomy (x j) (y j) with h1 | h1 | h1
      · have D1 := hid (p := decide (x j < y j) = true) (by simp; omega)
        have D2 := hid (p := decide (y j < x j) = false) (by simp; omega)
        go_wp2
        go_round
        case rel => exact ⟨j + 1, by omega, by go_num, by rw [HL.out, D1.out]; simp, by rw [HR.out, D2.out]; simp⟩
        case measure => simp [intOf]; omega
      · have D1 := hid (p := decide (x j < y j) = false) (by simp; omega)
        have D2 := hid (p := decide (y j < x j) = false) (by simp; omega)
        have h2 : ¬ x j < y j := by omega
        have h3 : ¬ y j < x j := by omega
        clear h1
        go_wp2
        go_round
        case rel => exact ⟨j + 1, by omega, by go_num, by rw [HL.out, D1.out]; simp, by rw [HR.out, D2.out]; simp⟩
        case measure => simp [intOf]; omega
      · have D1 := hid (p := decide (x j < y j) = false) (by simp; omega)
        have D2 := hid (p := decide (y j < x j) = true) (by simp; omega)
        go_wp2
        go_round
        case rel => exact ⟨j + 1, by omega, by go_num, by rw [HL.out, D1.out]; simp, by rw [HR.out, D2.out]; simp⟩
        case measure => simp [intOf]; omega
    · obtain rfl : j = n := by omega
      go_wp2_with fail
      refine (relation_any _ _ _).mono ?_
      rintro e w' ⟨rfl, rfl⟩
      go_wp2
      go_ret
      exact ⟨rfl, BW.out⟩
end Go.Proofs.Qxb6617169a
