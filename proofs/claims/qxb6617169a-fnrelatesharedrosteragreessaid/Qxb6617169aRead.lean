/-
  How the arguments read: slices of strings, slices of counts.
-/
import Derived.Test.Qxb6617169aKit
import Derived.ProofKit
import Derived.ChangeSlices
import Derived.SliceStrings
import Derived.Carry
namespace Go.Proofs.Qxb6617169a
open Go.ChangeShapes Go.WideShapes Go.ChangeAt Go.RowKit

theorem Try.own : ownKnob Try.prog.godebug = none := by kernel_rfl
theorem Try.laidOut : laidOutB Try.prog = true := by kernel_rfl
theorem Try.cells9 : Try.prog.cellsOf 9 = 1 := by kernel_rfl
theorem Try.cells45 : Try.prog.cellsOf 45 = 1 := by kernel_rfl

theorem strs_read {H : Type} {enc : TypeId × Value → H} {W : World} {fuel : Nat} {a0 : Option Addr} {len cap : Nat} {x : DataW H × List MemPlace} (hf : DataW.trod enc Try.prog W 0 (fun _ => true) true fuel 22 (Value.slice a0 len cap).cells.toList = some x) :
    ∃ f, Any0 a0 len cap ∧ Strs W W.heap.size a0 len f := by
  rcases open_strings Try.underlying22 Try.underlying9 Try.cells9 hf with ⟨hcs, hx⟩ | ⟨a, len', cap', zs, hcs, _, hl, hm, hz, hx, hcell, hwz⟩
  · simp [Value.cells] at hcs
    obtain ⟨rfl, rfl, rfl⟩ := hcs
    exact ⟨fun _ => ByteArray.empty, .inl ⟨rfl, rfl, rfl⟩, fun i hi => absurd hi (by omega)⟩
  · simp [Value.cells] at hcs
    obtain ⟨rfl, rfl, rfl⟩ := hcs
    simp only [if_true] at hz
    refine ⟨fun i => zs.getD i ByteArray.empty, .inr ⟨a, rfl⟩, fun i hi => ?_⟩
    have h := hcell i (by omega)
    obtain ⟨b, off, spot⟩ := a
    have hspot : spot = none := by simpa [Addr.add] using World.cell?_spot (hcell 0 (by omega))
    subst hspot
    rw [addr_add] at h
    exact ⟨b, off, rfl, World.block_lt_of_cell? _ _ h, h⟩
theorem nums_read {H : Type} {enc : TypeId × Value → H} {W : World} {fuel : Nat} {a0 : Option Addr} {len cap : Nat} {x : DataW H × List MemPlace} (hf : DataW.trod enc Try.prog W 0 (fun _ => true) true fuel 23 (Value.slice a0 len cap).cells.toList = some x) :
    ∃ f, Any0 a0 len cap ∧ Nums W W.heap.size a0 len f ∧ ∀ i, i < len → 0 ≤ f i ∧ f i ≤ 18446744073709551615 := by
  rcases open_ints Try.underlying23 Try.underlying45 Try.cells45 hf with ⟨hcs, hx⟩ | ⟨a, len', cap', zs, hcs, _, hl, hm, hz, hx, hcell, hwz⟩
  · simp [Value.cells] at hcs
    obtain ⟨rfl, rfl, rfl⟩ := hcs
    exact ⟨fun _ => 0, .inl ⟨rfl, rfl, rfl⟩, fun i hi => absurd hi (by omega), fun i hi => absurd hi (by omega)⟩
  · simp [Value.cells] at hcs
    obtain ⟨rfl, rfl, rfl⟩ := hcs
    simp only [if_true] at hz
    refine ⟨fun i => zs.getD i 0, .inr ⟨a, rfl⟩, fun i hi => ?_, fun i hi => ?_⟩
    · have h := hcell i (by omega)
      obtain ⟨b, off, spot⟩ := a
      have hspot : spot = none := by simpa [Addr.add] using World.cell?_spot (hcell 0 (by omega))
      subst hspot
      rw [addr_add] at h
      exact ⟨b, off, rfl, World.block_lt_of_cell? _ _ h, h⟩
    · have hlt : i < zs.length := by omega
      have h := hwz (zs.getD i 0) (by simp [List.getD, hlt])
      simp only [Lit.wf, IntKind.min, IntKind.max, IntKind.signed, IntKind.bits] at h
      simp at h
      exact ⟨by simpa using h.1, by have := h.2; simp; omega⟩
end Go.Proofs.Qxb6617169a
