import Derived.Test.Qxb6616985aFmtFacts
import Derived.Deep.QuietTactic
import Derived.BigQuiet
import Derived.Deep.LoopGhost
import Derived.WalkSmall
namespace Go.Proofs.Qxb6616985aFmt
open Go.RowKit

def spc (c : Int) : Bool := c == 32 || c == 9 || c == 10 || c == 13
def opn (c : Int) : Bool := c == 123 || c == 91
/-- The byte that 'Next' hands back when it stops at p. -/
def chr (f : Nat → Int) (len p : Nat) : Int := if p < len then f p else 0

structure StopsAt (f : Nat → Int) (len pos p : Nat) : Prop where
  ge : pos ≤ p
  le : p ≤ len ∨ p = pos
  sp : ∀ i, pos ≤ i → i < p → spc (f i) = true
  no : p < len → spc (f p) = false

structure TextAt (w : World) (b : Nat) (sl : Value) (p : Int) : Prop where
  c0 : w.cell? ⟨b, 0, none⟩ = some sl
  c1 : w.cell? ⟨b, 1, none⟩ = some (.int .i64 p)
  fz : w.frozen? ⟨b, 1, none⟩ = false

def DataAt (w : World) (b : Nat) (sv : Option Addr) (len : Nat) (f : Nat → Int) : Prop :=
  ∀ i, i < len → ∃ db doff, sv = some ⟨db, doff, none⟩ ∧ db < b ∧ w.cell? ⟨db, doff + i, none⟩ = some (.int .u8 (f i))

theorem chr_lt {f : Nat → Int} {len p : Nat} (h : p < len) : chr f len p = f p := if_pos h
theorem chr_ge {f : Nat → Int} {len p : Nat} (h : ¬ p < len) : chr f len p = 0 := if_neg h

set_option maxHeartbeats 400000 in
theorem next_quick (b : Nat) (db doff : Nat) (len cap : Nat) (c : Int) (pos : Nat) (w : World) (hlt : pos < len)
    (h32 : 32 < c) (c0 : w.cell? ⟨b, 0, none⟩ = some (.slice (some ⟨db, doff, none⟩) len cap)) (c1 : w.cell? ⟨b, 1, none⟩ = some (.int .i64 (pos : Int)))
    (hd : w.cell? ⟨db, doff + pos, none⟩ = some (.int .u8 c)) :
    Calls Tryf.prog 10 #[.pointer (some ⟨b, 0, none⟩)] w fun e w' => e = .returned (.int .u8 c) ∧ ∃ n, w' = w.drewN n := by
  have hlt' : (pos : Int) < (len : Int) := by omega
  go_enter Tryf.func10, Tryf.ntmps10
  go_wp2
  go_quiet (fail)
  go_wp2
  go_quiet (fail)
  go_wp2
  go_ret
  exact ⟨rfl, _, World.drewN_drewN _ _ _⟩

/-- What the loop of 'Next' keeps, p bytes in. -/
structure Mid (f : Nat → Int) (len pos b : Nat) (sl : Value) (w : World) (p : Nat) (wr : World) : Prop where
  ge : pos ≤ p
  le : p ≤ len ∨ p = pos
  sp : ∀ i, pos ≤ i → i < p → spc (f i) = true
  bel : Below b w wr
  size : wr.heap.size = w.heap.size
  txt : TextAt wr b sl p

theorem Mid.step {f : Nat → Int} {len pos b : Nat} {sl : Value} {w : World} {p : Nat} {wr : World} (h : Mid f len pos b sl w p wr) (hlt : p < len) (hs : spc (f p) = true) (n : Nat) :
    Mid f len pos b sl w (p + 1) ((wr.setCell ⟨b, 1, none⟩ (.int .i64 ((p : Int) + 1))).drewN n) := by
  obtain ⟨h1, h2, h3, h4, h5, ⟨t0, t1, t2⟩⟩ := h
  refine ⟨by omega, by omega, ?_, below_drewN (h4.setCell (Nat.le_refl _) _) n, by simp [World.setCell, h5], ⟨?_, ?_, ?_⟩⟩
  · intro i hi hj
    by_cases e : i = p
    · subst e; exact hs
    · exact h3 i hi (by omega)
  · exact (World.cell?_setCell_other _ _ _ _ (by simp)).trans t0
  · exact World.cell?_setCell_same _ _ _ t1
  · simpa using t2

theorem Mid.start {f : Nat → Int} {len pos b : Nat} {sl : Value} {w : World} (h : TextAt w b sl pos) (n : Nat) : Mid f len pos b sl w pos (w.drewN n) :=
  ⟨Nat.le_refl _, Or.inr rfl, fun i hi hj => absurd hj (by omega), below_drewN (Below.refl _ _) n, rfl, ⟨h.c0, h.c1, h.fz⟩⟩

theorem spc_cases {c : Int} (h : spc c = true) : c = 32 ∨ c = 9 ∨ c = 10 ∨ c = 13 := by
  simp [spc] at h; omega
theorem spc_not {c : Int} (h : spc c = false) : (c == 32) = false ∧ (c == 9) = false ∧ (c == 10) = false ∧ (c == 13) = false := by
  simp [spc] at h ⊢; omega
theorem ret_u8 {a b : Int} (h : a = b) : Ending.returned (.int .u8 a) = .returned (.int .u8 b) := by rw [h]

/-- The end of 'Next' at p. -/
def NextEnds (f : Nat → Int) (len pos b : Nat) (sl : Value) (w : World) (e : Ending) (w' : World) : Prop :=
  ∃ p, StopsAt f len pos p ∧ p ≤ 9223372036854775807 ∧ e = .returned (.int .u8 (chr f len p)) ∧ Mid f len pos b sl w p w'

theorem NextEnds.mk {f : Nat → Int} {len pos b : Nat} {sl : Value} {w : World} {p : Nat} {wr : World} {c : Int} {e : Ending} (hM : Mid f len pos b sl w p wr) (hp : pos ≤ 9223372036854775807) (hl : len ≤ 1048576)
    (hs : p < len → spc (f p) = false) (hc : c = chr f len p) (he : e = .returned (.int .u8 c)) (n : Nat) : NextEnds f len pos b sl w e (wr.drewN n) :=
  ⟨p, ⟨hM.ge, hM.le, hM.sp, hs⟩, by have := hM.le; omega, by rw [he, hc], ⟨hM.ge, hM.le, hM.sp, below_drewN hM.bel n, hM.size, hM.txt.c0, hM.txt.c1, hM.txt.fz⟩⟩

set_option maxHeartbeats 1000000 in
theorem next_slow (b : Nat) (sv : Option Addr) (len cap : Nat) (f : Nat → Int) (pos : Nat) (w : World) (hl : len ≤ 1048576) (hp : pos ≤ 9223372036854775807)
    (hd : DataAt w b sv len f) (ht : TextAt w b (.slice sv len cap) pos) (hno : pos < len → f pos ≤ 32) :
    Calls Tryf.prog 10 #[.pointer (some ⟨b, 0, none⟩)] w fun e w' => NextEnds f len pos b (.slice sv len cap) w e w' := by
  obtain ⟨c0, c1, fz⟩ := ht
  by_cases hlt : pos < len
  · obtain ⟨db, doff, rfl, hdb, hcell⟩ := hd pos hlt
    have hlt' : (pos : Int) < (len : Int) := by omega
    have h32 : ¬ 32 < f pos := by have := hno hlt; omega
    have HD : Hid (DataAt w b (some ⟨db, doff, none⟩) len f) := hd
    have HM : Hid (∀ n, Mid f len pos b (.slice (some ⟨db, doff, none⟩) len cap) w pos (w.drewN n)) := Mid.start ⟨c0, c1, fz⟩
    clear hd
    go_enter Tryf.func10, Tryf.ntmps10
    go_wp2
    go_quiet (fail)
    go_wp2
    clear hcell h32 hlt' c0 c1 fz hno
    go_loopg [3] (len - pos) (fun k _ wr => ∃ p, k = len - p ∧ Mid f len pos b (.slice (some ⟨db, doff, none⟩) len cap) w p wr)
    case atStart => exact ⟨pos, rfl, HM.out _⟩
    case round =>
      clear HM
      obtain ⟨p, hk, hM⟩ := hrel
      have HK : Hid (gk = len - p) := hk
      have HM : Hid (Mid f len pos b (.slice (some ⟨db, doff, none⟩) len cap) w p wr) := hM
      obtain ⟨t0, t1, t2⟩ := hM.txt
      have hple := hM.le
      by_cases hp2 : p < len
      · have hp3 : (p : Int) < (len : Int) := by omega
        obtain ⟨db', doff', e1, _, hcell⟩ := HD.out p hp2
        obtain ⟨rfl, rfl⟩ : db' = db ∧ doff' = doff := by simpa [eq_comm] using e1
        have hcell' := (hM.bel.cell (p := ⟨db', doff' + p, none⟩) hdb).trans hcell
        clear hM hk hcell e1
        obtain ⟨c, HC⟩ : ∃ c, Hid (f p = c) := ⟨_, rfl⟩
        rw [HC.out] at hcell'
        by_cases hs : spc c = true
        · rcases spc_cases hs with rfl | rfl | rfl | rfl
          all_goals
            clear hs
            go_wp2
            go_quiet (fail)
            go_wp2
            go_quiet (fail)
            go_wp2
            go_roundg (len - (p + 1))
            case measure => rw [HK.out]; omega
            case rel => exact ⟨p + 1, rfl, HM.out.step hp2 (by rw [HC.out]; rfl) _⟩
        · have hs' : spc c = false := by simpa using hs
          obtain ⟨g1, g2, g3, g4⟩ := spc_not hs'
          clear hs
          go_wp2
          go_quiet (fail)
          go_wp2
          go_quiet (fail)
          go_wp2
          go_ret
          exact NextEnds.mk HM.out hp hl (fun _ => by rw [HC.out]; exact hs') (by rw [chr_lt hp2, HC.out]) rfl _
      · have hp3 : decide ((p : Int) < (len : Int)) = false := by simp; omega
        clear hM hk
        go_wp2
        go_quiet (fail)
        go_wp2
        go_ret
        exact NextEnds.mk HM.out hp hl (fun h => absurd h hp2) (by rw [chr_ge hp2]) rfl _
  · have hp3 : decide ((pos : Int) < (len : Int)) = false := by simp; omega
    have HM : Hid (∀ n, Mid f len pos b (.slice sv len cap) w pos (w.drewN n)) := Mid.start ⟨c0, c1, fz⟩
    clear hd hno
    go_enter Tryf.func10, Tryf.ntmps10
    go_wp2
    go_quiet (fail)
    go_wp2
    clear c0 c1 fz
    go_loopg [3] 0 (fun _ _ wr => Mid f len pos b (.slice sv len cap) w pos wr)
    case atStart => exact HM.out _
    case round =>
      clear HM
      have HM : Hid (Mid f len pos b (.slice sv len cap) w pos wr) := hrel
      obtain ⟨t0, t1, t2⟩ := hrel.txt
      clear hrel
      go_wp2
      go_quiet (fail)
      go_wp2
      go_ret
      exact NextEnds.mk HM.out hp hl (fun h => absurd h hlt) (by rw [chr_ge hlt]) rfl _

theorem next_any (b : Nat) (sv : Option Addr) (len cap : Nat) (f : Nat → Int) (pos : Nat) (w : World) (hl : len ≤ 1048576) (hp : pos ≤ 9223372036854775807)
    (hd : DataAt w b sv len f) (ht : TextAt w b (.slice sv len cap) pos) :
    Calls Tryf.prog 10 #[.pointer (some ⟨b, 0, none⟩)] w fun e w' => NextEnds f len pos b (.slice sv len cap) w e w' := by
  by_cases h : pos < len ∧ 32 < f pos
  · obtain ⟨hlt, h32⟩ := h
    obtain ⟨db, doff, rfl, hdb, hcell⟩ := hd pos hlt
    refine (next_quick b db doff len cap (f pos) pos w hlt h32 ht.c0 ht.c1 hcell).mono ?_
    rintro e w' ⟨he, n, rfl⟩
    have hs : spc (f pos) = false := by simp [spc]; omega
    refine NextEnds.mk (Mid.start ht 0) hp hl (fun _ => hs) (chr_lt hlt).symm he n
  · exact next_slow b sv len cap f pos w hl hp hd ht (fun hlt => by
      have : ¬ 32 < f pos := fun h' => h ⟨hlt, h'⟩
      omega)

/-! ### isJSONSpace, isOpener -/
theorem isSpace_any (c : Int) (w : World) :
    Calls Tryf.prog 7 #[.int .u8 c] w fun e w' => e = .returned (.bool (spc c)) ∧ w' = w := by
  by_cases hs : spc c = true
  · rw [hs]
    rcases spc_cases hs with rfl | rfl | rfl | rfl
    all_goals
      clear hs
      go_enter Tryf.func7, Tryf.ntmps7
      go_wp2
      go_ret
      exact ⟨rfl, rfl⟩
  · have hs' : spc c = false := by simpa using hs
    rw [hs']
    obtain ⟨g1, g2, g3, g4⟩ := spc_not hs'
    clear hs hs'
    go_enter Tryf.func7, Tryf.ntmps7
    go_wp2
    go_ret
    exact ⟨rfl, rfl⟩

theorem opn_cases {c : Int} (h : opn c = true) : c = 123 ∨ c = 91 := by simpa [opn] using h
theorem opn_not {c : Int} (h : opn c = false) : (c == 123) = false ∧ (c == 91) = false := by simpa [opn] using h

theorem isOpener_any (c : Int) (w : World) :
    Calls Tryf.prog 8 #[.int .u8 c] w fun e w' => e = .returned (.bool (opn c)) ∧ w' = w := by
  by_cases hs : opn c = true
  · rw [hs]
    rcases opn_cases hs with rfl | rfl
    all_goals
      clear hs
      go_enter Tryf.func8, Tryf.ntmps8
      go_wp2
      go_ret
      exact ⟨rfl, rfl⟩
  · have hs' : opn c = false := by simpa using hs
    rw [hs']
    obtain ⟨g1, g2⟩ := opn_not hs'
    clear hs hs'
    go_enter Tryf.func8, Tryf.ntmps8
    go_wp2
    go_ret
    exact ⟨rfl, rfl⟩
end Go.Proofs.Qxb6616985aFmt
