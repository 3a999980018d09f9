import Derived.Test.Qxb6616985aFmtDepth
namespace Go.Proofs.Qxb6616985aFmt
open Go.RowKit Go.Extern.Stop Go.Stop Go.Extern

theorem StopsAt.unique {f : Nat → Int} {len pos p q : Nat} (h : StopsAt f len pos p) (k : StopsAt f len pos q) : p = q := by
  obtain ⟨h1, h2, h3, h4⟩ := h
  obtain ⟨k1, k2, k3, k4⟩ := k
  rcases Nat.lt_trichotomy p q with hlt | he | hgt
  · have a := k3 p h1 hlt
    have c := h4 (by omega)
    rw [a] at c; cases c
  · exact he
  · have a := h3 q k1 hgt
    have c := k4 (by omega)
    rw [a] at c; cases c

/-- A new Text. -/
theorem text_alloc (w : World) (sl : Value) (p : Int) : TextAt (w.alloc (.cells #[sl, .int .i64 p, .nilIface, .nilIface] 30)) w.heap.size sl p := by
  exact ⟨by simp, by simp, by simp⟩
theorem DataAt.mono {w : World} {B B' : Nat} {sv : Option Addr} {len : Nat} {f : Nat → Int} (h : DataAt w B sv len f) (hB : B ≤ B') : DataAt w B' sv len f := by
  intro i hi
  obtain ⟨db, doff, h1, h2, h3⟩ := h i hi
  exact ⟨db, doff, h1, by omega, h3⟩
theorem DataAt.later {w w' : World} {B : Nat} {sv : Option Addr} {len : Nat} {f : Nat → Int} (h : DataAt w B sv len f) (hb : Below B w w') : DataAt w' B sv len f := by
  intro i hi
  obtain ⟨db, doff, h1, h2, h3⟩ := h i hi
  exact ⟨db, doff, h1, h2, (hb.cell h2).trans h3⟩
theorem DataAt.cells {w : World} {B : Nat} {db doff : Nat} {len : Nat} {f : Nat → Int} (h : DataAt w B (some ⟨db, doff, none⟩) len f) (i : Nat) (hi : i < len) : w.cell? ⟨db, doff + i, none⟩ = some (.int .u8 (f i)) := by
  obtain ⟨db', doff', h1, _, h3⟩ := h i hi
  obtain ⟨rfl, rfl⟩ : db' = db ∧ doff' = doff := by simpa [eq_comm] using h1
  exact h3

theorem bytes5_yes (a : Option Addr) (len cap : Nat) (x y : Int) (w : World) (hl : len ≤ 1048576) :
    Calls Tryf.prog 5 #[.slice a len cap, .int .i64 x, .int .i64 y] w fun e w' => e = .returned (.bool true) ∧ w' = w := by
  go_enter Tryf.func5, Tryf.ntmps5
  go_wp2
  go_ret
  exact ⟨rfl, rfl⟩
theorem bytes5_no (a : Option Addr) (len cap : Nat) (x y : Int) (w : World) (hl : 1048576 < len) :
    Calls Tryf.prog 5 #[.slice a len cap, .int .i64 x, .int .i64 y] w fun e w' => e = .returned (.bool false) ∧ w' = w := by
  have hl' : (1048576 : Int) < (len : Int) := by omega
  go_enter Tryf.func5, Tryf.ntmps5
  go_wp2
  go_ret
  exact ⟨rfl, rfl⟩
theorem bytes9_yes (a : Option Addr) (len cap : Nat) (x y : Int) (w : World) (hl : len ≤ 1048576) :
    Calls Tryf.prog 9 #[.slice a len cap, .int .i64 x, .int .i64 y] w fun e w' => e = .returned (.bool true) ∧ w' = w := by
  go_enter Tryf.func9, Tryf.ntmps9
  go_wp2
  go_ret
  exact ⟨rfl, rfl⟩
theorem bytes9_no (a : Option Addr) (len cap : Nat) (x y : Int) (w : World) (hl : 1048576 < len) :
    Calls Tryf.prog 9 #[.slice a len cap, .int .i64 x, .int .i64 y] w fun e w' => e = .returned (.bool false) ∧ w' = w := by
  have hl' : (1048576 : Int) < (len : Int) := by omega
  go_enter Tryf.func9, Tryf.ntmps9
  go_wp2
  go_ret
  exact ⟨rfl, rfl⟩

set_option maxHeartbeats 400000 in
theorem lawA_long (a : Option Addr) (len cap : Nat) (x y : Int) (w : World) (hl : 1048576 < len) :
    Calls Tryf.prog 3 #[.slice a len cap, .int .i64 x, .int .i64 y] w fun e w' => e = .returned (.bool true) ∧ w' = w := by
  go_enter Tryf.func3, Tryf.ntmps3
  go_wp2_with (go_at_call 5; refine (bytes5_no a len cap x y _ hl).mono ?_; rintro e w' ⟨rfl, rfl⟩)
  go_ret
  exact ⟨rfl, rfl⟩
set_option maxHeartbeats 400000 in
theorem lawA_neg (a : Option Addr) (len cap : Nat) (x y : Int) (w : World) (hl : len ≤ 1048576) (hx : x < 0) :
    Calls Tryf.prog 3 #[.slice a len cap, .int .i64 x, .int .i64 y] w fun e w' => e = .returned (.bool true) ∧ w' = w := by
  go_enter Tryf.func3, Tryf.ntmps3
  go_wp2_with (go_at_call 5; refine (bytes5_yes a len cap x y _ hl).mono ?_; rintro e w' ⟨rfl, rfl⟩)
  go_ret
  exact ⟨rfl, rfl⟩

/-- What stands behind the two calls of the first law. -/
structure TwoEnds (f : Nat → Int) (len pos : Nat) (sv : Option Addr) (depth : Int) (w : World) (p b2 : Nat) (ev1 ev2 : Value) (w2 : World) : Prop where
  stop : StopsAt f len pos p
  lim : p ≤ 9223372036854775807
  e1 : ErrIs (refuses depth (chr f len p)) ev1
  e2 : ErrIs (refuses 10000 (chr f len p)) ev2
  bel : Below w.heap.size w w2
  dat : DataAt w2 w.heap.size sv len f
  p1 : w2.cell? ⟨w.heap.size, 1, none⟩ = some (.int .i64 (p : Int))
  p2 : w2.cell? ⟨b2, 1, none⟩ = some (.int .i64 (p : Int))

theorem two_ends {f : Nat → Int} {len pos : Nat} {sv : Option Addr} {sl sl' : Value} {depth : Int} {w w1 w2 : World} {p q : Nat} {ev1 ev2 : Value} {o o' : Obj} (hd : DataAt w w.heap.size sv len f)
    (h1 : DepthEnds f len pos w.heap.size sl depth (w.alloc o) p ev1 w1) (h2 : DepthEnds f len pos w1.heap.size sl' 10000 (w1.alloc o') q ev2 w2) : TwoEnds f len pos sv depth w p w1.heap.size ev1 ev2 w2 := by
  obtain rfl : p = q := h1.stop.unique h2.stop
  have s1 : w.heap.size + 1 ≤ w1.heap.size := by have := h1.bel.size; simpa using this
  have b1 : Below w.heap.size w w1 := ((Below.refl _ w).alloc (Nat.le_refl _) o).trans h1.bel
  have b2' : Below w1.heap.size w1 w2 := ((Below.refl _ w1).alloc (Nat.le_refl _) o').trans h2.bel
  have b2 : Below w.heap.size w w2 := b1.trans (b2'.mono (by omega))
  exact ⟨h1.stop, h1.lim, h1.err, h2.err, b2, hd.later b2, (b2'.cell (p := ⟨w.heap.size, 1, none⟩) (by show w.heap.size < _; omega)).trans h1.txt.c1, h2.txt.c1⟩

theorem ErrIs.get_no {r : Bool} {ev : Value} (h : ErrIs r ev) (hr : r = false) : ev = .nilIface := by subst hr; simpa [ErrIs] using h
theorem ErrIs.get_yes {r : Bool} {ev : Value} (h : ErrIs r ev) (hr : r = true) : ∃ a, ev = .iface 38 (.pointer (some a)) := by subst hr; simpa [ErrIs] using h
theorem refuses_no {d c : Int} (h : opn c = false) : refuses d c = false := by simp [refuses, h]
theorem refuses_low {d c : Int} (h : ¬ 10000 ≤ d) : refuses d c = false := by simp [refuses, h]
theorem refuses_yes {d c : Int} (h : opn c = true) (hd : 10000 ≤ d) : refuses d c = true := by simp [refuses, h, hd]

theorem err_ways {depth c : Int} {ev1 ev2 : Value} (e1 : ErrIs (refuses depth c) ev1) (e2 : ErrIs (refuses 10000 c) ev2) :
    (opn c = false ∧ ev1 = .nilIface ∧ ev2 = .nilIface ∧ 10000 ≤ depth) ∨ (opn c = false ∧ ev1 = .nilIface ∧ ev2 = .nilIface ∧ depth < 10000) ∨
    (∃ a1 a2, opn c = true ∧ ev1 = .iface 38 (.pointer (some a1)) ∧ ev2 = .iface 38 (.pointer (some a2)) ∧ 10000 ≤ depth) ∨ (∃ a2, opn c = true ∧ ev1 = .nilIface ∧ ev2 = .iface 38 (.pointer (some a2)) ∧ depth < 10000) := by
  cases ho : opn c
  · have x1 := e1.get_no (refuses_no ho)
    have x2 := e2.get_no (refuses_no ho)
    rcases Int.lt_or_le depth 10000 with h | h
    · exact .inr (.inl ⟨rfl, x1, x2, h⟩)
    · exact .inl ⟨rfl, x1, x2, h⟩
  · obtain ⟨a2, x2⟩ := e2.get_yes (refuses_yes ho (Int.le_refl _))
    rcases Int.lt_or_le depth 10000 with h | h
    · exact .inr (.inr (.inr ⟨a2, rfl, e1.get_no (refuses_low (by omega)), x2, h⟩))
    · obtain ⟨a1, x1⟩ := e1.get_yes (refuses_yes ho h)
      exact .inr (.inr (.inl ⟨a1, a2, rfl, x1, x2, h⟩))

set_option maxHeartbeats 1000000 in
theorem lawA_main (F : Interp) (sv : Option Addr) (len cap : Nat) (f : Nat → Int) (pos : Nat) (depth : Int) (w : World) (hF : F.answers w.tape) (hl : len ≤ 1048576) (hp : pos ≤ 9223372036854775807)
    (hd : DataAt w w.heap.size sv len f) :
    Calls Tryf.prog 3 #[.slice sv len cap, .int .i64 (pos : Int), .int .i64 depth] w fun e w' => e = .returned (.bool true) ∧ Below w.heap.size w w' := by
  have HF : Hid (F.answers w.tape) := hF
  have HD : Hid (DataAt w w.heap.size sv len f) := hd
  clear hF hd
  have hb1 : decide ((1048576 : Int) < (len : Int)) = false := by simp; omega
  have hb2 : decide ((pos : Int) < 0) = false := by simp
  go_enter Tryf.func3, Tryf.ntmps3
  go_wp2_with (go_at_call 5; refine (bytes5_yes sv len cap _ _ _ hl).mono ?_; rintro e w' ⟨rfl, hw⟩; obtain rfl : w = w' := hw.symm)
  refine (depth_any F w.heap.size sv len cap f pos depth _ (by exact HF.out) hl hp (by exact HD.out.later ((Below.refl _ w).alloc (Nat.le_refl _) _)) (by exact text_alloc w _ _)).mono ?_
  rintro e w1 ⟨p, ev1, rfl, h1⟩
  have HF1 : Hid (F.answers w1.tape) := by unfold Hid; rw [h1.bel.tape]; exact HF.out
  have b1 : Below w.heap.size w w1 := ((Below.refl _ w).alloc (Nat.le_refl _) _).trans h1.bel
  have s1 : w.heap.size + 1 ≤ w1.heap.size := by have := h1.bel.size; simpa using this
  have HD1 : Hid (DataAt w1 w1.heap.size sv len f) := (HD.out.later b1).mono (by omega)
  have H1 := (show Hid _ from h1)
  clear h1 HF
  go_wp2_with fail
  refine (depth_any F w1.heap.size sv len cap f pos 10000 _ (by exact HF1.out) hl hp (by exact HD1.out.later ((Below.refl _ w1).alloc (Nat.le_refl _) _)) (by exact text_alloc w1 _ _)).mono ?_
  rintro e w2 ⟨q, ev2, rfl, h2⟩
  have T := two_ends HD.out H1.out h2
  clear h2 H1 HF1 HD1 HD b1
  have b2lt : w1.heap.size < w2.heap.size := World.block_lt_of_cell? _ _ T.p2
  generalize w1.heap.size = b2 at *
  have t1 := T.p1
  have t2 := T.p2
  have hst := T.stop
  have hpm := T.lim
  have HB : Hid (Below w.heap.size w w2) := T.bel
  by_cases hlen : len ≤ pos
  · obtain rfl : p = pos := by have := hst.le; have := hst.ge; omega
    have hc : chr f len p = 0 := chr_ge (by omega)
    have e1 := T.e1
    have e2 := T.e2
    rw [hc] at e1 e2
    obtain rfl := e1.get_no (refuses_no rfl)
    obtain rfl := e2.get_no (refuses_no rfl)
    clear e1 e2 hc T hst
    go_wp2
    all_goals
      go_ret
      exact ⟨rfl, HB.out⟩
  have hlt : pos < len := by omega
  have hge := hst.ge
  have hle : p ≤ len := by have := hst.le; omega
  obtain ⟨db, doff, rfl, _, _⟩ := T.dat pos hlt
  have hcell := T.dat.cells
  have HC : Hid (∀ i, i < len → w2.cell? ⟨db, doff + i, none⟩ = some (.int .u8 (f i))) := hcell
  have HS : Hid (∀ i, pos ≤ i → i < p → spc (f i) = true) := hst.sp
  have hb3 : decide (p < pos) = false := by simp; omega
  have hb4 : decide (len < p) = false := by simp; omega
  have hb5 : decide (len ≤ pos) = false := by simp; omega
  have e1 := T.e1
  have e2 := T.e2
  have hno := hst.no
  clear hcell hlen T hst
  by_cases hpl : p < len
  · rw [chr_lt hpl] at e1 e2
    have hsp := hno hpl
    have hcp := HC.out p hpl
    clear hno
    generalize f p = c at *
    rcases err_ways e1 e2 with ⟨ho, rfl, rfl, hdep⟩ | ⟨ho, rfl, rfl, hdep⟩ | ⟨a1, a2, ho, rfl, rfl, hdep⟩ | ⟨a2, ho, rfl, rfl, hdep⟩
    all_goals
      clear e1 e2
      go_wp2
      go_loop [12] (fun i => ∃ k : Nat, pos ≤ k ∧ k ≤ p ∧ i = .int .i64 (k : Int)) (fun i => p - (intOf i).toNat)
      case atStart => exact ⟨pos, Nat.le_refl _, hge, rfl⟩
      case round =>
        obtain ⟨k, hk1, hk2, rfl⟩ := hrel
        by_cases hkp : k < p
        · have hsk := HS.out k hk1 hkp
          have hck := HC.out k (by omega)
          obtain ⟨ck, HK⟩ : ∃ ck, Hid (f k = ck) := ⟨_, rfl⟩
          rw [HK.out] at hsk hck
          go_wp2_with (go_at_call 7; refine (isSpace_any _ _).mono ?_; rintro e w' ⟨rfl, rfl⟩)
          go_round
          case rel => exact ⟨k + 1, by omega, by omega, by go_num⟩
          case measure => simp [intOf]; omega
        · go_wp2_with (first | (go_at_call 7; refine (isSpace_any _ _).mono ?_; rintro e w' ⟨rfl, rfl⟩) | (go_at_call 8; refine (isOpener_any _ _).mono ?_; rintro e w' ⟨rfl, rfl⟩))
          go_ret
          exact ⟨rfl, HB.out⟩
  · rw [chr_ge hpl] at e1 e2
    clear hno
    rcases err_ways e1 e2 with ⟨ho, rfl, rfl, hdep⟩ | ⟨ho, rfl, rfl, hdep⟩ | ⟨a1, a2, ho, rfl, rfl, hdep⟩ | ⟨a2, ho, rfl, rfl, hdep⟩
    rotate_left 2
    · cases ho
    · cases ho
    all_goals
      clear e1 e2
      go_wp2
      go_loop [12] (fun i => ∃ k : Nat, pos ≤ k ∧ k ≤ p ∧ i = .int .i64 (k : Int)) (fun i => p - (intOf i).toNat)
      case atStart => exact ⟨pos, Nat.le_refl _, hge, rfl⟩
      case round =>
        obtain ⟨k, hk1, hk2, rfl⟩ := hrel
        by_cases hkp : k < p
        · have hsk := HS.out k hk1 hkp
          have hck := HC.out k (by omega)
          obtain ⟨ck, HK⟩ : ∃ ck, Hid (f k = ck) := ⟨_, rfl⟩
          rw [HK.out] at hsk hck
          go_wp2_with (go_at_call 7; refine (isSpace_any _ _).mono ?_; rintro e w' ⟨rfl, rfl⟩)
          go_round
          case rel => exact ⟨k + 1, by omega, by omega, by go_num⟩
          case measure => simp [intOf]; omega
        · go_wp2
          go_ret
          exact ⟨rfl, HB.out⟩
end Go.Proofs.Qxb6616985aFmt
