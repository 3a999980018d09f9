import Derived.Test.Qxb6616985aFmtLawA
namespace Go.Proofs.Qxb6616985aFmt
open Go.RowKit Go.Extern.Stop Go.Stop Go.Extern

/-- Where 'data[pos:]' begins. -/
def cutAt (sv : Option Addr) (pos cap : Nat) : Option Addr := if cap = pos then sv else sv.map (·.add pos)

theorem run_cut (sv : Option Addr) (len cap pos : Nat) (h : pos ≤ len) (wx : World) :
    (Instr.slice 22 (.slice sv len cap) (some (.int .i64 (pos : Int))) none none).run Tryf.prog wx = .ok (.slice (cutAt sv pos cap) (len - pos) (cap - pos)) wx := by
  rw [run_slice_l wx 22 sv len cap Tryf.underlying22 .i64 (pos : Int) (by omega) (by omega)]
  have hs : (sizeOf (Tryf.prog.elem 22)).run Tryf.prog wx = .ok 1 wx := by kernel_rfl
  rw [hs]
  simp [Result.andThen, sliced, cutAt]

theorem DataAt.cut {w : World} {B : Nat} {sv : Option Addr} {len cap pos : Nat} {f : Nat → Int} (h : DataAt w B sv len f) (hc : len ≤ cap) : DataAt w B (cutAt sv pos cap) (len - pos) (fun i => f (pos + i)) := by
  intro i hi
  obtain ⟨db, doff, h1, h2, h3⟩ := h (pos + i) (by omega)
  refine ⟨db, doff + pos, ?_, h2, ?_⟩
  · subst h1
    simp [cutAt, Addr.add, show ¬ cap = pos by omega]
  · rw [Nat.add_assoc]; exact h3

theorem StopsAt.cut {f : Nat → Int} {len pos p q : Nat} (h : StopsAt f len pos p) (hp : pos ≤ len) (k : StopsAt (fun i => f (pos + i)) (len - pos) 0 q) : p = pos + q := by
  refine h.unique ⟨by omega, ?_, ?_, ?_⟩
  · have := k.le; omega
  · intro i hi hj
    have := k.sp (i - pos) (by omega) (by omega)
    simpa [show pos + (i - pos) = i by omega] using this
  · intro hl
    exact k.no (by omega)
theorem chr_cut {f : Nat → Int} {len pos q : Nat} : chr (fun i => f (pos + i)) (len - pos) q = chr f len (pos + q) := by
  unfold chr
  by_cases h : q < len - pos
  · rw [if_pos h, if_pos (by omega)]
  · rw [if_neg h, if_neg (by omega)]
theorem StopsAt.again {f : Nat → Int} {len pos p q : Nat} (h : StopsAt f len pos p) (k : StopsAt f len p q) : q = p :=
  k.unique ⟨Nat.le_refl _, Or.inr rfl, fun i hi hj => absurd hj (by omega), h.no⟩

set_option maxHeartbeats 400000 in
theorem lawB_long (a : Option Addr) (len cap : Nat) (x y : Int) (w : World) (hl : 1048576 < len) :
    Calls Tryf.prog 4 #[.slice a len cap, .int .i64 x, .int .i64 y] w fun e w' => e = .returned (.bool true) ∧ w' = w := by
  go_enter Tryf.func4, Tryf.ntmps4
  go_wp2_with (go_at_call 9; refine (bytes9_no a len cap x y _ hl).mono ?_; rintro e w' ⟨rfl, rfl⟩)
  go_ret
  exact ⟨rfl, rfl⟩
set_option maxHeartbeats 400000 in
theorem lawB_out (a : Option Addr) (len cap : Nat) (x y : Int) (w : World) (hl : len ≤ 1048576) (hx : x < 0 ∨ (len : Int) < x) :
    Calls Tryf.prog 4 #[.slice a len cap, .int .i64 x, .int .i64 y] w fun e w' => e = .returned (.bool true) ∧ w' = w := by
  rcases hx with hx | hx
  · go_enter Tryf.func4, Tryf.ntmps4
    go_wp2_with (go_at_call 9; refine (bytes9_yes a len cap x y _ hl).mono ?_; rintro e w' ⟨rfl, rfl⟩)
    go_ret
    exact ⟨rfl, rfl⟩
  · have hx0 : ¬ x < 0 := by omega
    go_enter Tryf.func4, Tryf.ntmps4
    go_wp2_with (go_at_call 9; refine (bytes9_yes a len cap x y _ hl).mono ?_; rintro e w' ⟨rfl, rfl⟩)
    go_ret
    exact ⟨rfl, rfl⟩

/-- What stands behind the three calls of the second law. -/
structure ThreeEnds (f : Nat → Int) (len pos : Nat) (sv : Option Addr) (depth : Int) (w : World) (p q b2 : Nat) (ev1 ev3 ev2 : Value) (w3 : World) : Prop where
  stop : StopsAt f len pos p
  lim : p ≤ 9223372036854775807
  pq : p = pos + q
  e1 : ErrIs (refuses depth (chr f len p)) ev1
  e3 : ErrIs (refuses depth (chr f len p)) ev3
  e2 : ErrIs (refuses depth (chr f len p)) ev2
  bel : Below w.heap.size w w3
  dat : DataAt w3 w.heap.size sv len f
  p1 : w3.cell? ⟨w.heap.size, 1, none⟩ = some (.int .i64 (p : Int))
  p2 : w3.cell? ⟨b2, 1, none⟩ = some (.int .i64 (q : Int))

theorem three_ends {f : Nat → Int} {len pos : Nat} {sv : Option Addr} {sl sl' : Value} {depth : Int} {w w1 w2 w3 : World} {p p' q : Nat} {ev1 ev2 ev3 : Value} {o o' : Obj} (hd : DataAt w w.heap.size sv len f) (hpl : pos ≤ len)
    (h1 : DepthEnds f len pos w.heap.size sl depth (w.alloc o) p ev1 w1) (h3 : DepthEnds f len p w.heap.size sl depth w1 p' ev3 w2) (h2 : DepthEnds (fun i => f (pos + i)) (len - pos) 0 w2.heap.size sl' depth (w2.alloc o') q ev2 w3) :
    ThreeEnds f len pos sv depth w p q w2.heap.size ev1 ev3 ev2 w3 := by
  obtain rfl : p' = p := h1.stop.again h3.stop
  have hpq : p' = pos + q := h1.stop.cut hpl h2.stop
  have s1 : w.heap.size + 1 ≤ w1.heap.size := by have := h1.bel.size; simpa using this
  have s2 : w1.heap.size ≤ w2.heap.size := h3.bel.size
  have b1 : Below w.heap.size w w1 := ((Below.refl _ w).alloc (Nat.le_refl _) o).trans h1.bel
  have b2 : Below w.heap.size w w2 := b1.trans h3.bel
  have b3' : Below w2.heap.size w2 w3 := ((Below.refl _ w2).alloc (Nat.le_refl _) o').trans h2.bel
  have b3 : Below w.heap.size w w3 := b2.trans (b3'.mono (by omega))
  have e2 := h2.err
  rw [chr_cut, ← hpq] at e2
  exact ⟨h1.stop, h1.lim, hpq, h1.err, h3.err, e2, b3, hd.later b3, (b3'.cell (p := ⟨w.heap.size, 1, none⟩) (by show w.heap.size < _; omega)).trans h3.txt.c1, h2.txt.c1⟩

theorem err_ways3 {depth c : Int} {ev1 ev2 ev3 : Value} (e1 : ErrIs (refuses depth c) ev1) (e3 : ErrIs (refuses depth c) ev3) (e2 : ErrIs (refuses depth c) ev2) :
    (∃ a1 a3 a2, ev1 = .iface 38 (.pointer (some a1)) ∧ ev3 = .iface 38 (.pointer (some a3)) ∧ ev2 = .iface 38 (.pointer (some a2)) ∧ 10000 ≤ depth ∧ opn c = true) ∨
    (ev1 = .nilIface ∧ ev3 = .nilIface ∧ ev2 = .nilIface ∧ 10000 ≤ depth ∧ opn c = false) ∨ (ev1 = .nilIface ∧ ev3 = .nilIface ∧ ev2 = .nilIface ∧ depth < 10000) := by
  rcases Int.lt_or_le depth 10000 with h | h
  · have hr : refuses depth c = false := refuses_low (by omega)
    exact .inr (.inr ⟨e1.get_no hr, e3.get_no hr, e2.get_no hr, h⟩)
  cases ho : opn c
  · have hr : refuses depth c = false := refuses_no ho
    exact .inr (.inl ⟨e1.get_no hr, e3.get_no hr, e2.get_no hr, h, rfl⟩)
  · have hr : refuses depth c = true := refuses_yes ho h
    obtain ⟨a1, x1⟩ := e1.get_yes hr
    obtain ⟨a3, x3⟩ := e3.get_yes hr
    obtain ⟨a2, x2⟩ := e2.get_yes hr
    exact .inl ⟨a1, a3, a2, x1, x3, x2, h, rfl⟩

theorem spc_opn {c : Int} (h : opn c = true) : spc c = false := by
  rcases opn_cases h with rfl | rfl <;> rfl
theorem char_ways {f : Nat → Int} {len pos p : Nat} (h : StopsAt f len pos p) :
    len ≤ pos ∨ (pos < len ∧ opn (f pos) = true ∧ spc (f pos) = false ∧ p = pos ∧ chr f len p = f pos) ∨ (pos < len ∧ opn (f pos) = false ∧ spc (f pos) = true ∧ pos < p) ∨ (pos < len ∧ opn (f pos) = false ∧ spc (f pos) = false) := by
  by_cases hl : len ≤ pos
  · exact .inl hl
  have hlt : pos < len := by omega
  cases hs : spc (f pos)
  · have hpp : p = pos := by
      have h1 := h.ge
      by_cases e : p = pos
      · exact e
      · have := h.sp pos (Nat.le_refl _) (by omega)
        rw [hs] at this; cases this
    cases ho : opn (f pos)
    · exact .inr (.inr (.inr ⟨hlt, rfl, rfl⟩))
    · exact .inr (.inl ⟨hlt, rfl, rfl, hpp, by rw [hpp, chr_lt hlt]⟩)
  · have ho : opn (f pos) = false := by
      cases ho : opn (f pos)
      · rfl
      · have := spc_opn ho; rw [hs] at this; cases this
    have hgt : pos < p := by
      have h1 := h.ge
      by_cases e : p = pos
      · subst e; have := h.no hlt; rw [hs] at this; cases this
      · omega
    exact .inr (.inr (.inl ⟨hlt, ho, rfl, hgt⟩))

set_option maxHeartbeats 1000000 in
theorem lawB_main (F : Interp) (sv : Option Addr) (len cap : Nat) (f : Nat → Int) (pos : Nat) (depth : Int) (w : World) (hF : F.answers w.tape) (hl : len ≤ 1048576) (hcap : len ≤ cap) (hp : pos ≤ len)
    (hd : DataAt w w.heap.size sv len f) :
    Calls Tryf.prog 4 #[.slice sv len cap, .int .i64 (pos : Int), .int .i64 depth] w fun e w' => e = .returned (.bool true) ∧ Below w.heap.size w w' := by
  have HF : Hid (F.answers w.tape) := hF
  have HD : Hid (DataAt w w.heap.size sv len f) := hd
  clear hF hd
  have hb1 : decide ((1048576 : Int) < (len : Int)) = false := by simp; omega
  have hb2 : decide ((pos : Int) < 0) = false := by simp
  have hsl := run_cut sv len cap pos hp
  go_enter Tryf.func4, Tryf.ntmps4
  go_wp2_with (go_at_call 9; refine (bytes9_yes sv len cap _ _ _ hl).mono ?_; rintro e w' ⟨rfl, hw⟩; obtain rfl : w = w' := hw.symm)
  refine (depth_any F w.heap.size sv len cap f pos depth _ (by exact HF.out) hl (by omega) (by exact HD.out.later ((Below.refl _ w).alloc (Nat.le_refl _) _)) (by exact text_alloc w _ _)).mono ?_
  rintro e w1 ⟨p, ev1, rfl, h1⟩
  have HF1 : Hid (F.answers w1.tape) := by unfold Hid; rw [h1.bel.tape]; exact HF.out
  have b1 : Below w.heap.size w w1 := ((Below.refl _ w).alloc (Nat.le_refl _) _).trans h1.bel
  have s1 : w.heap.size + 1 ≤ w1.heap.size := by have := h1.bel.size; simpa using this
  have HD1 : Hid (DataAt w1 w.heap.size sv len f) := HD.out.later b1
  have t1 := h1.txt.c1
  have hpm := h1.lim
  have H1 := (show Hid _ from h1)
  clear h1 HF
  go_wp2_with fail
  refine (depth_any F w.heap.size sv len cap f p depth _ (by exact HF1.out) hl hpm (by exact HD1.out) (by exact H1.out.txt)).mono ?_
  rintro e w2 ⟨p', ev3, rfl, h3⟩
  have HF2 : Hid (F.answers w2.tape) := by unfold Hid; rw [h3.bel.tape]; exact HF1.out
  have HD2 : Hid (DataAt w2 w.heap.size sv len f) := HD1.out.later h3.bel
  have s2 : w1.heap.size ≤ w2.heap.size := h3.bel.size
  have H3 := (show Hid _ from h3)
  clear h3 HF1 HD1 t1
  go_wp2_with fail
  refine (depth_any F w2.heap.size (cutAt sv pos cap) (len - pos) (cap - pos) (fun i => f (pos + i)) 0 depth _ (by exact HF2.out) (by omega) (by omega) (by exact ((HD2.out.cut hcap).mono (by omega)).later ((Below.refl _ w2).alloc (Nat.le_refl _) _)) (by exact text_alloc w2 _ _)).mono ?_
  rintro e w3 ⟨q, ev2, rfl, h2⟩
  have T := three_ends HD.out hp H1.out H3.out h2
  clear h2 H1 H3 HF2 HD2 HD b1
  have b2lt : w2.heap.size < w3.heap.size := World.block_lt_of_cell? _ _ T.p2
  have s3 : w.heap.size < w2.heap.size := by omega
  clear s1 s2
  generalize w2.heap.size = b2 at *
  have t1 := T.p1
  have t2 := T.p2
  have hst := T.stop
  have HB : Hid (Below w.heap.size w w3) := T.bel
  have HC : Hid (pos < len → ∃ db doff, sv = some ⟨db, doff, none⟩ ∧ w3.cell? ⟨db, doff + pos, none⟩ = some (.int .u8 (f pos))) := fun h => by
    obtain ⟨db, doff, h1, _, h3⟩ := T.dat pos h
    exact ⟨db, doff, h1, h3⟩
  have hpq := T.pq
  have hple : p ≤ len := by have := hst.le; omega
  have hge := hst.ge
  have hq1 : ((q : Int) == (p : Int) - (pos : Int)) = true := by simp; omega
  have hqp : q ≤ p := by omega
  have HQ : Hid (p = pos + q) := hpq
  clear hpq
  have cw := char_ways hst
  rcases err_ways3 T.e1 T.e3 T.e2 with ⟨a1, a3, a2, rfl, rfl, rfl, hdep, ho⟩ | ⟨rfl, rfl, rfl, hdep, ho⟩ | ⟨rfl, rfl, rfl, hdep⟩
  · rcases cw with hlen | ⟨hlt, g1, g2, g3, g4⟩ | ⟨hlt, g1, g2, g3⟩ | ⟨hlt, g1, g2⟩
    · rw [chr_ge (by omega)] at ho; cases ho
    · subst g3
      obtain rfl : q = 0 := by have := HQ.out; omega
      clear hq1
      clear T hst ho g4
      obtain ⟨db, doff, rfl, hcell⟩ := HC.out hlt
      clear HC
      go_wp2
      go_quiet (fail)
      go_wp2_with (first | (go_at_call 7; refine (isSpace_any _ _).mono ?_; rintro e w' ⟨rfl, hw⟩; rw [hw]; clear hw) | (go_at_call 8; refine (isOpener_any _ _).mono ?_; rintro e w' ⟨rfl, hw⟩; rw [hw]; clear hw))
      go_ret
      exact ⟨rfl, below_drewN HB.out _⟩
    · clear T hst ho
      obtain ⟨db, doff, rfl, hcell⟩ := HC.out hlt
      clear HC
      go_wp2
      go_quiet (fail)
      go_wp2_with (first | (go_at_call 7; refine (isSpace_any _ _).mono ?_; rintro e w' ⟨rfl, hw⟩; rw [hw]; clear hw) | (go_at_call 8; refine (isOpener_any _ _).mono ?_; rintro e w' ⟨rfl, hw⟩; rw [hw]; clear hw))
      go_ret
      exact ⟨rfl, below_drewN HB.out _⟩
    · clear T hst ho
      obtain ⟨db, doff, rfl, hcell⟩ := HC.out hlt
      clear HC
      go_wp2
      go_quiet (fail)
      go_wp2_with (first | (go_at_call 7; refine (isSpace_any _ _).mono ?_; rintro e w' ⟨rfl, hw⟩; rw [hw]; clear hw) | (go_at_call 8; refine (isOpener_any _ _).mono ?_; rintro e w' ⟨rfl, hw⟩; rw [hw]; clear hw))
      go_ret
      exact ⟨rfl, below_drewN HB.out _⟩
  · rcases cw with hlen | ⟨hlt, g1, g2, g3, g4⟩ | ⟨hlt, g1, g2, g3⟩ | ⟨hlt, g1, g2⟩
    · clear T hst ho HC
      go_wp2
      go_quiet (fail)
      go_wp2_with (first | (go_at_call 7; refine (isSpace_any _ _).mono ?_; rintro e w' ⟨rfl, hw⟩; rw [hw]; clear hw) | (go_at_call 8; refine (isOpener_any _ _).mono ?_; rintro e w' ⟨rfl, hw⟩; rw [hw]; clear hw))
      go_ret
      exact ⟨rfl, below_drewN HB.out _⟩
    · rw [g4, g1] at ho; cases ho
    · clear T hst ho
      obtain ⟨db, doff, rfl, hcell⟩ := HC.out hlt
      clear HC
      go_wp2
      go_quiet (fail)
      go_wp2_with (first | (go_at_call 7; refine (isSpace_any _ _).mono ?_; rintro e w' ⟨rfl, hw⟩; rw [hw]; clear hw) | (go_at_call 8; refine (isOpener_any _ _).mono ?_; rintro e w' ⟨rfl, hw⟩; rw [hw]; clear hw))
      go_ret
      exact ⟨rfl, below_drewN HB.out _⟩
    · clear T hst ho
      obtain ⟨db, doff, rfl, hcell⟩ := HC.out hlt
      clear HC
      go_wp2
      go_quiet (fail)
      go_wp2_with (first | (go_at_call 7; refine (isSpace_any _ _).mono ?_; rintro e w' ⟨rfl, hw⟩; rw [hw]; clear hw) | (go_at_call 8; refine (isOpener_any _ _).mono ?_; rintro e w' ⟨rfl, hw⟩; rw [hw]; clear hw))
      go_ret
      exact ⟨rfl, below_drewN HB.out _⟩
  · have hdb : decide (10000 ≤ depth) = false := by simp; omega
    rcases cw with hlen | ⟨hlt, g1, g2, g3, g4⟩ | ⟨hlt, g1, g2, g3⟩ | ⟨hlt, g1, g2⟩
    · clear T hst HC
      go_wp2
      go_quiet (fail)
      go_wp2_with (first | (go_at_call 7; refine (isSpace_any _ _).mono ?_; rintro e w' ⟨rfl, hw⟩; rw [hw]; clear hw) | (go_at_call 8; refine (isOpener_any _ _).mono ?_; rintro e w' ⟨rfl, hw⟩; rw [hw]; clear hw))
      go_ret
      exact ⟨rfl, below_drewN HB.out _⟩
    · subst g3
      obtain rfl : q = 0 := by have := HQ.out; omega
      clear hq1
      clear T hst g4
      obtain ⟨db, doff, rfl, hcell⟩ := HC.out hlt
      clear HC
      go_wp2
      go_quiet (fail)
      go_wp2_with (first | (go_at_call 7; refine (isSpace_any _ _).mono ?_; rintro e w' ⟨rfl, hw⟩; rw [hw]; clear hw) | (go_at_call 8; refine (isOpener_any _ _).mono ?_; rintro e w' ⟨rfl, hw⟩; rw [hw]; clear hw))
      go_ret
      exact ⟨rfl, below_drewN HB.out _⟩
    · clear T hst
      obtain ⟨db, doff, rfl, hcell⟩ := HC.out hlt
      clear HC
      go_wp2
      go_quiet (fail)
      go_wp2_with (first | (go_at_call 7; refine (isSpace_any _ _).mono ?_; rintro e w' ⟨rfl, hw⟩; rw [hw]; clear hw) | (go_at_call 8; refine (isOpener_any _ _).mono ?_; rintro e w' ⟨rfl, hw⟩; rw [hw]; clear hw))
      go_ret
      exact ⟨rfl, below_drewN HB.out _⟩
    · clear T hst
      obtain ⟨db, doff, rfl, hcell⟩ := HC.out hlt
      clear HC
      go_wp2
      go_quiet (fail)
      go_wp2_with (first | (go_at_call 7; refine (isSpace_any _ _).mono ?_; rintro e w' ⟨rfl, hw⟩; rw [hw]; clear hw) | (go_at_call 8; refine (isOpener_any _ _).mono ?_; rintro e w' ⟨rfl, hw⟩; rw [hw]; clear hw))
      go_ret
      exact ⟨rfl, below_drewN HB.out _⟩
end Go.Proofs.Qxb6616985aFmt
