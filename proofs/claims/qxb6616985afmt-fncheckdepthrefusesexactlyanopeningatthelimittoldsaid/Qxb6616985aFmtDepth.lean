import Derived.Test.Qxb6616985aFmtNext
namespace Go.Proofs.Qxb6616985aFmt
open Go.RowKit Go.Extern.Stop Go.Stop Go.Extern

/-- Does CheckDepth refuse? -/
def refuses (depth : Int) (c : Int) : Bool := decide (10000 ≤ depth) && opn c
/-- An error that is there, or none. -/
def ErrIs (r : Bool) (ev : Value) : Prop := if r = true then ∃ a, ev = .iface 38 (.pointer (some a)) else ev = .nilIface
theorem ErrIs.yes {ev : Value} (a : Addr) (h : ev = .iface 38 (.pointer (some a))) : ErrIs true ev := by simp only [ErrIs, if_true]; exact ⟨a, h⟩
theorem ErrIs.no {ev : Value} (h : ev = .nilIface) : ErrIs false ev := by simpa [ErrIs] using h

structure DepthEnds (f : Nat → Int) (len pos b : Nat) (sl : Value) (depth : Int) (w : World) (p : Nat) (ev : Value) (w' : World) : Prop where
  stop : StopsAt f len pos p
  lim : p ≤ 9223372036854775807
  err : ErrIs (refuses depth (chr f len p)) ev
  bel : Below b w w'
  txt : TextAt w' b sl p

theorem TextAt.later {w w' : World} {b : Nat} {sl : Value} {p : Int} (h : TextAt w b sl p) (hb : Below w.heap.size w w') : TextAt w' b sl p := by
  have hlt : b < w.heap.size := World.block_lt_of_cell? _ _ h.c0
  exact ⟨(hb.cell hlt).trans h.c0, (hb.cell hlt).trans h.c1, (hb.frozen hlt).trans h.fz⟩

set_option maxHeartbeats 400000 in
theorem depth_any (F : Interp) (b : Nat) (sv : Option Addr) (len cap : Nat) (f : Nat → Int) (pos : Nat) (depth : Int) (w : World) (hF : F.answers w.tape) (hl : len ≤ 1048576) (hp : pos ≤ 9223372036854775807)
    (hd : DataAt w b sv len f) (ht : TextAt w b (.slice sv len cap) pos) :
    Calls Tryf.prog 6 #[.pointer (some ⟨b, 0, none⟩), .int .i64 depth] w fun e w' => ∃ p ev, e = .returned ev ∧ DepthEnds f len pos b (.slice sv len cap) depth w p ev w' := by
  have HF : Hid (F.answers w.tape) := hF
  have HN : Hid (Calls Tryf.prog 10 #[.pointer (some ⟨b, 0, none⟩)] w fun e w' => NextEnds f len pos b (.slice sv len cap) w e w') := next_any b sv len cap f pos w hl hp hd ht
  clear hd ht hF
  go_enter Tryf.func6, Tryf.ntmps6
  go_wp2_with fail
  refine (HN.out).mono ?_
  rintro e w1 ⟨p, hst, hpm, rfl, hM⟩
  clear HN
  obtain ⟨c, HC⟩ : ∃ c, Hid (chr f len p = c) := ⟨_, rfl⟩
  rw [HC.out]
  have HM : Hid (Mid f len pos b (.slice sv len cap) w p w1) := hM
  have HS : Hid (StopsAt f len pos p) := hst
  have t1 := hM.txt.c1
  have HF1 : Hid (F.answers w1.tape) := by unfold Hid; rw [hM.bel.tape]; exact HF.out
  clear hM hst HF
  by_cases hr : 10000 ≤ depth ∧ opn c = true
  · obtain ⟨hr1, hr2⟩ := hr
    have HR : Hid (refuses depth c = true) := by simp [refuses, hr1, hr2, Hid]
    rcases opn_cases hr2 with rfl | rfl
    all_goals
      clear hr2
      go_wp2_with fail
      refine (tooDeep_any F _ _ HF1.out).mono ?_
      rintro e w2 ⟨⟨a, rfl⟩, hb2⟩
      go_wp2
      go_ret
      have hb : b ≤ w1.heap.size := Nat.le_of_lt (World.block_lt_of_cell? _ _ HM.out.txt.c0)
      exact ⟨p, _, rfl, HS.out, hpm, by rw [HC.out, HR.out]; exact ErrIs.yes a rfl, HM.out.bel.trans (hb2.mono hb), HM.out.txt.later hb2⟩
  · have HR : Hid (refuses depth c = false) := by
      unfold Hid refuses
      by_cases h : 10000 ≤ depth
      · have : opn c = false := by
          by_cases h' : opn c = true
          · exact absurd ⟨h, h'⟩ hr
          · simpa using h'
        simp [this]
      · simp [h]
    by_cases h : 10000 ≤ depth
    · have ho : opn c = false := by
        by_cases h' : opn c = true
        · exact absurd ⟨h, h'⟩ hr
        · simpa using h'
      obtain ⟨g1, g2⟩ := opn_not ho
      clear hr ho
      go_wp2
      go_ret
      exact ⟨p, _, rfl, HS.out, hpm, by rw [HC.out, HR.out]; exact ErrIs.no rfl, HM.out.bel, HM.out.txt⟩
    · clear hr
      go_wp2
      go_ret
      exact ⟨p, _, rfl, HS.out, hpm, by rw [HC.out, HR.out]; exact ErrIs.no rfl, HM.out.bel, HM.out.txt⟩
end Go.Proofs.Qxb6616985aFmt
