/-
  'zzc := make([]T, len(x)); copy(zzc, x)': the two runs as equations for the walk.
-/
import Derived.Test.Qxb6617169aGuard
import Derived.Laws.CopyOwn
namespace Go.Proofs.Qxb6617169a
open Go.RowKit

theorem hid' {p : Prop} (h : p) : Hid p := h
theorem Try.info45 : (Try.prog.info? 45).map (fun i => (i.zero, i.size, i.bytes)) = some (some (.int .u64 0), 1, 8) := by kernel_rfl
theorem Try.info9' : (Try.prog.info? 9).map (fun i => (i.zero, i.size, i.bytes)) = some (some (.string ⟨#[]⟩), 1, 16) := by kernel_rfl

/-- n cells from sv on, in blocks below B. -/
def Cells (w : World) (B : Nat) (sv : Option Addr) (n : Nat) (val : Nat → Value) : Prop :=
  ∀ i, i < n → ∃ b off, sv = some ⟨b, off, none⟩ ∧ b < B ∧ w.cell? ⟨b, off + i, none⟩ = some (val i)

theorem addr_add' (b off i : Nat) : (⟨b, off, none⟩ : Addr).add i = ⟨b, off + i, none⟩ := by unfold Addr.add; split <;> simp_all

theorem clone_run (t e : TypeId) (z : Value) (by' : Nat) (ht : Try.prog.underlying t = some (.slice e)) (hinfo : (Try.prog.info? e).map (fun i => (i.zero, i.size, i.bytes)) = some (some z, 1, by')) (hby : by' ≤ 16)
    (val : Nat → Value) (h1 : ∀ i, (val i).oneCell' = true) (w : World) (sv : Option Addr) (n c : Nat) (hn : n ≤ 4096) (hS : Cells w w.heap.size sv n val) :
    ∃ w1 w2, (Instr.makeSlice t (.int .i64 (n : Int)) (.int .i64 (n : Int))).run Try.prog w = .ok (.slice (some ⟨w.heap.size, 0, none⟩) n n) w1 ∧
      (∀ ty, (Builtin.copy_ #[t, t] ty #[.slice (some ⟨w.heap.size, 0, none⟩) n n, .slice sv n c]).run Try.prog w1 = .ok (.int .i64 (n : Int)) w2) ∧
      Below w.heap.size w w2 ∧ w.heap.size < w2.heap.size ∧ Cells w2 w2.heap.size (some ⟨w.heap.size, 0, none⟩) n val := by
  obtain ⟨i0, hi, hz0, hz1, hz2⟩ := info_parts hinfo
  have hsz : (Try.prog.info? e).map (·.size) = some 1 := by rw [hi]; simp [hz1]
  have hbb : (i0.bytes : Int) * (n : Int) ≤ 281474976710656 := by
    have h : i0.bytes * n ≤ 16 * 4096 := Nat.mul_le_mul (by omega) hn
    have h' : ((i0.bytes * n : Nat) : Int) ≤ 65536 := by omega
    rw [Int.natCast_mul] at h'
    omega
  have hmk := run_make (P := Try.prog) w t e i0 z ht hi hz0 .i64 .i64 (n : Int) (n : Int) (by omega) (by omega) hbb (by omega)
  simp only [Int.toNat_natCast] at hmk
  have hb1 : Below w.heap.size w (w.alloc (.cells (madeCells z.cells (n * i0.size)) e)) := (Below.refl _ w).alloc (Nat.le_refl _) _
  have hg : (w.alloc (.cells (madeCells z.cells (n * i0.size)) e)).heap[w.heap.size]? = some (.cells (madeCells z.cells (n * i0.size)) e (0, 0)) := heap_alloc_new w _
  have hsm : (madeCells z.cells (n * i0.size)).size = n := by rw [size_madeCells, hz1, Nat.mul_one]
  generalize madeCells z.cells (n * i0.size) = cur at *
  by_cases h0 : n = 0
  · subst h0
    refine ⟨_, _, hmk, fun ty => run_copy_none (P := Try.prog) _ t t ty e _ _ _ _ _ _ ht hsz rfl, hb1, by simp, fun i hi => absurd hi (by omega)⟩
  · obtain ⟨b, off, rfl, hb, _⟩ := hS 0 (by omega)
    have hlen : ((List.range n).map val).length = Nat.min n n := by simp
    have hrun := fun ty => run_copy_row (P := Try.prog) (w.alloc (.cells cur e)) t t ty e w.heap.size 0 n n ⟨b, off, none⟩ n c cur e ((List.range n).map val) ht hsz hg hlen (fun j v hj => by
      have hl := (List.getElem?_eq_some_iff.1 hj).1
      rw [List.length_map, List.length_range] at hl
      obtain ⟨b', off', e', hb', hc'⟩ := hS j hl
      obtain ⟨rfl, rfl⟩ : b' = b ∧ off' = off := by simpa [eq_comm] using e'
      rw [addr_add']
      simp [hl] at hj
      subst hj
      exact (hb1.cell (p := ⟨b', off' + j, none⟩) hb').trans hc') (by simp; omega) (fun v hv => by
      obtain ⟨i, _, rfl⟩ := List.mem_map.1 hv
      exact h1 i)
    have hfin := setRow_heap (w.alloc (.cells cur e)) w.heap.size cur (cur.toList.take 0 ++ (List.range n).map val ++ cur.toList.drop (0 + n)).toArray e (0, 0) hg
    refine ⟨_, _, hmk, fun ty => (hrun ty).trans (by rw [List.length_map, List.length_range]; rfl), below_setRow hb1 (Nat.le_refl _) _, by simp [World.setRow], fun i hi => ⟨w.heap.size, 0, rfl, by simp [World.setRow], ?_⟩⟩
    rw [cell_of_row _ _ _ _ _ _ hfin, List.getElem?_toArray, Nat.zero_add, List.take_zero, List.nil_append, List.getElem?_append_left (by simpa using hi)]
    simp [hi]

theorem clone_strs (w : World) (sv : Option Addr) (n c : Nat) (f : Nat → ByteArray) (hn : n ≤ 4096) (hS : Strs w w.heap.size sv n f) :
    ∃ w1 w2, (Instr.makeSlice 22 (.int .i64 (n : Int)) (.int .i64 (n : Int))).run Try.prog w = .ok (.slice (some ⟨w.heap.size, 0, none⟩) n n) w1 ∧
      (∀ ty, (Builtin.copy_ #[22, 22] ty #[.slice (some ⟨w.heap.size, 0, none⟩) n n, .slice sv n c]).run Try.prog w1 = .ok (.int .i64 (n : Int)) w2) ∧
      Below w.heap.size w w2 ∧ w.heap.size < w2.heap.size ∧ Strs w2 w2.heap.size (some ⟨w.heap.size, 0, none⟩) n f :=
  clone_run 22 9 _ 16 Try.underlying22 Try.info9' (by omega) (fun i => .string (f i)) (fun _ => rfl) w sv n c hn hS
theorem clone_nums (w : World) (sv : Option Addr) (n c : Nat) (f : Nat → Int) (hn : n ≤ 4096) (hS : Nums w w.heap.size sv n f) :
    ∃ w1 w2, (Instr.makeSlice 23 (.int .i64 (n : Int)) (.int .i64 (n : Int))).run Try.prog w = .ok (.slice (some ⟨w.heap.size, 0, none⟩) n n) w1 ∧
      (∀ ty, (Builtin.copy_ #[23, 23] ty #[.slice (some ⟨w.heap.size, 0, none⟩) n n, .slice sv n c]).run Try.prog w1 = .ok (.int .i64 (n : Int)) w2) ∧
      Below w.heap.size w w2 ∧ w.heap.size < w2.heap.size ∧ Nums w2 w2.heap.size (some ⟨w.heap.size, 0, none⟩) n f :=
  clone_run 23 45 _ 8 Try.underlying23 Try.info45 (by omega) (fun i => .int .u64 (f i)) (fun _ => rfl) w sv n c hn hS
end Go.Proofs.Qxb6617169a
