/-
  What the four laws' walks share.
-/
import Derived.Test.Qxb6617169aClone
import Derived.Test.Qxb6617169aUnion
import Derived.Deep.DeepCutAuto
namespace Go.Proofs.Qxb6617169a
open Go.RowKit

/-- A slice as an argument brings it: nil, or somewhere. -/
def Held (sv : Option Addr) (n c : Nat) : Prop := (sv = none ∧ n = 0 ∧ c = 0) ∨ ∃ b off, sv = some ⟨b, off, none⟩

/-- A slice of strings in slot value v, in wx. -/
def HasStrs (v : Value) (n : Nat) (f : Nat → ByteArray) (wx : World) : Prop := ∃ sv c, v = .slice sv n c ∧ n ≤ c ∧ Held sv n c ∧ Strs wx wx.heap.size sv n f
def HasNums (v : Value) (n : Nat) (f : Nat → Int) (wx : World) : Prop := ∃ sv c, v = .slice sv n c ∧ n ≤ c ∧ Held sv n c ∧ Nums wx wx.heap.size sv n f
theorem HasStrs.later {v : Value} {n : Nat} {f : Nat → ByteArray} {w w' : World} (h : HasStrs v n f w) (hb : Below w.heap.size w w') : HasStrs v n f w' := by
  obtain ⟨sv, c, h1, h2, h3, h4⟩ := h
  exact ⟨sv, c, h1, h2, h3, (h4.later hb).mono hb.size⟩
theorem HasNums.later {v : Value} {n : Nat} {f : Nat → Int} {w w' : World} (h : HasNums v n f w) (hb : Below w.heap.size w w') : HasNums v n f w' := by
  obtain ⟨sv, c, h1, h2, h3, h4⟩ := h
  exact ⟨sv, c, h1, h2, h3, (h4.later hb).mono hb.size⟩

/-- A slice of strings as an argument: whatever its address. -/
def HasStrs0 (v : Value) (n : Nat) (f : Nat → ByteArray) (wx : World) : Prop := ∃ sv c, v = .slice sv n c ∧ Strs wx wx.heap.size sv n f
def HasNums0 (v : Value) (n : Nat) (f : Nat → Int) (wx : World) : Prop := ∃ sv c, v = .slice sv n c ∧ Nums wx wx.heap.size sv n f
theorem HasStrs0.later {v : Value} {n : Nat} {f : Nat → ByteArray} {w w' : World} (h : HasStrs0 v n f w) (hb : Below w.heap.size w w') : HasStrs0 v n f w' := by
  obtain ⟨sv, c, h1, h4⟩ := h
  exact ⟨sv, c, h1, (h4.later hb).mono hb.size⟩
theorem HasNums0.later {v : Value} {n : Nat} {f : Nat → Int} {w w' : World} (h : HasNums0 v n f w) (hb : Below w.heap.size w w') : HasNums0 v n f w' := by
  obtain ⟨sv, c, h1, h4⟩ := h
  exact ⟨sv, c, h1, (h4.later hb).mono hb.size⟩
theorem HasStrs0.get {q : Option Addr} {n k : Nat} {f : Nat → ByteArray} {w : World} (h : HasStrs0 (.slice q n k) n f w) : Strs w w.heap.size q n f := by
  obtain ⟨sv, c, e, hs⟩ := h
  simp only [Value.slice.injEq, true_and] at e
  rw [e.1]; exact hs
theorem HasNums0.get {q : Option Addr} {n k : Nat} {f : Nat → Int} {w : World} (h : HasNums0 (.slice q n k) n f w) : Nums w w.heap.size q n f := by
  obtain ⟨sv, c, e, hs⟩ := h
  simp only [Value.slice.injEq, true_and] at e
  rw [e.1]; exact hs
/-- Nil, or somewhere. -/
def Any0 (sv : Option Addr) (n c : Nat) : Prop := (sv = none ∧ n = 0 ∧ c = 0) ∨ ∃ a, sv = some a
theorem HasStrs.nil (f : Nat → ByteArray) (w : World) : HasStrs (.slice none 0 0) 0 f w := ⟨none, 0, rfl, Nat.le_refl _, .inl ⟨rfl, rfl, rfl⟩, fun i hi => absurd hi (by omega)⟩
theorem HasNums.nil (f : Nat → Int) (w : World) : HasNums (.slice none 0 0) 0 f w := ⟨none, 0, rfl, Nat.le_refl _, .inl ⟨rfl, rfl, rfl⟩, fun i hi => absurd hi (by omega)⟩
theorem HasStrs.get {q : Option Addr} {n k : Nat} {f : Nat → ByteArray} {w : World} (h : HasStrs (.slice q n k) n f w) : Strs w w.heap.size q n f := by
  obtain ⟨sv, c, e, _, _, hs⟩ := h
  simp only [Value.slice.injEq, true_and] at e
  rw [e.1]; exact hs
theorem HasNums.get {q : Option Addr} {n k : Nat} {f : Nat → Int} {w : World} (h : HasNums (.slice q n k) n f w) : Nums w w.heap.size q n f := by
  obtain ⟨sv, c, e, _, _, hs⟩ := h
  simp only [Value.slice.injEq, true_and] at e
  rw [e.1]; exact hs

/-- A variable that holds a Vector. -/
def put1 (w : World) (p x : Value) : World := w.alloc (.cells #[p, x] 29)
theorem put1_below (w : World) (p x : Value) : Below w.heap.size w (put1 w p x) := (Below.refl _ w).alloc (Nat.le_refl _) _
theorem put1_boxed (w : World) (p x : Value) : Boxed w.heap.size p x (put1 w p x) := Boxed.new w p x 29
theorem put1_size (w : World) (p x : Value) : (put1 w p x).heap.size = w.heap.size + 1 := by simp [put1]

theorem sorted_below (sv : Option Addr) (n c B : Nat) (f : Nat → ByteArray) (w : World) (hn : n ≤ 1048576) (hS : Strs w B sv n f) :
    Calls Try.prog 9 #[.slice sv n c] w fun e w' => e = .returned (.bool (srt f n)) ∧ Below w.heap.size w w' := by
  refine (sorted_any sv n c B f w hn hS).mono ?_
  rintro e w' ⟨rfl, q, rfl⟩
  exact ⟨rfl, below_drewN (Below.refl _ _) q⟩

end Go.Proofs.Qxb6617169a
