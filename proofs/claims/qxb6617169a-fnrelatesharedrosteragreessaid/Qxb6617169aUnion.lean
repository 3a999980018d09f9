/-
  WALKS: ZZVector, union, ZZUnion.
-/
import Derived.Test.Qxb6617169aLeaf
import Derived.Laws.AppendOwnNone
namespace Go.Proofs.Qxb6617169a
open Go.RowKit

theorem hid {p : Prop} (h : p) : Hid p := h

theorem Try.info9 : (Try.prog.info? 9).map (fun i => (i.zero, i.size, i.bytes)) = some (some (.string ⟨#[]⟩), 1, 16) := by kernel_rfl

set_option maxHeartbeats 400000 in
theorem vector_any (s1 : Option Addr) (n1 c1 : Nat) (s2 : Option Addr) (n2 c2 : Nat) (w : World) :
    Calls Try.prog 10 #[.slice s1 n1 c1, .slice s2 n2 c2] w fun e w' => e = .returned (.agg #[.pointer (some ⟨w.heap.size + 1, 0, none⟩), .slice s2 n2 c2]) ∧ Below w.heap.size w w' ∧ w'.cell? ⟨w.heap.size + 1, 1, none⟩ = some (.slice s1 n1 c1) ∧ w.heap.size + 2 ≤ w'.heap.size := by
  go_enter Try.func10, Try.ntmps10
  go_wp2
  refine bodyPost_ret (v := .agg #[.pointer (some ⟨w.heap.size + 1, 0, none⟩), .slice s2 n2 c2]) (by simp [results, Try.results10, go_sem]) rfl ⟨rfl, ((Below.refl _ w).alloc (Nat.le_refl _) _).alloc (by simp) _, ?_, by simp⟩
  simp [go_sem]

/-- names, its world forgotten. -/
theorem names_below (r : Nat) (sv : Option Addr) (n c : Nat) (sv' : Option Addr) (n' c' : Nat) (w : World) (hr : w.cell? ⟨r, 1, none⟩ = some (.slice sv n c)) :
    Calls Try.prog 25 #[.agg #[.pointer (some ⟨r, 0, none⟩), .slice sv' n' c']] w fun e w' => e = .returned (.slice sv n c) ∧ Below w.heap.size w w' := by
  refine (names_any r sv n c sv' n' c' w hr).mono ?_
  rintro e w' ⟨rfl, rfl⟩
  exact ⟨rfl, (Below.refl _ w).alloc (Nat.le_refl _) _⟩

/-! ### What the rounds of union do to memory -/
theorem own_snoc {base : Nat} {w1 : World} {v' : Value} {L : List ByteArray} {x : ByteArray} (h : w1.ownsRow base 9 1 v' (L.length + 1) (L.map Value.string ++ [.string x])) : w1.ownsRow base 9 1 v' (L ++ [x]).length ((L ++ [x]).map Value.string) := by
  simpa using h
theorem bel_snoc {B : Nat} {w wr w1 : World} {o : Obj} {v : Value} {n : Nat} {xs : List Value} (hb : Below B w wr) (hB : B ≤ wr.heap.size) (hown : wr.ownsRow B 9 1 v n xs) (hg : (wr.alloc o).grownBy w1 v.ownBlock) : Below B w w1 :=
  (hb.alloc hB o).grown hg (by simp; omega) (fun k hk => (hown.lt k hk).1)
theorem addr_add (b off i : Nat) : (⟨b, off, none⟩ : Addr).add i = ⟨b, off + i, none⟩ := by unfold Addr.add; split <;> simp_all
/-- What a row of strings that the call owns reads as. -/
theorem strs_of_own {base : Nat} {w : World} {v : Value} {L : List ByteArray} (h : w.ownsRow base 9 1 v L.length (L.map Value.string)) : ∃ su cu, v = .slice su L.length cu ∧ Strs w w.heap.size su L.length (fun i => L.getD i ByteArray.empty) := by
  rcases h.2 with ⟨rfl, h0⟩ | ⟨g, cap, cur, rfl, hb, hg, hn, hm, hs, ht⟩
  · refine ⟨none, 0, by rw [h0], fun i hi => ?_⟩
    omega
  · refine ⟨_, cap, rfl, fun i hi => ⟨g, 0, rfl, (Array.getElem?_eq_some_iff.1 hg).1, ?_⟩⟩
    have hc := h.cells rfl i (.string (L.getD i ByteArray.empty)) (by simp [List.getD, hi])
    have ha : (⟨g, 0, none⟩ : Addr).add i = ⟨g, 0 + i, none⟩ := addr_add ..
    rw [ha] at hc
    exact hc

/-- Where 'names[i:]' begins. -/
def cutAt (sv : Option Addr) (i cap : Nat) : Option Addr := if cap = i then sv else sv.map (·.add i)
theorem run_cut (sv : Option Addr) (n c i : Nat) (h : i ≤ n) (wx : World) :
    (Instr.slice 22 (.slice sv n c) (some (.int .i64 (i : Int))) none none).run Try.prog wx = .ok (.slice (cutAt sv i c) (n - i) (c - i)) wx := by
  rw [run_slice_l wx 22 sv n c Try.underlying22 .i64 (i : Int) (by omega) (by omega)]
  have hs : (sizeOf (Try.prog.elem 22)).run Try.prog wx = .ok 1 wx := by kernel_rfl
  rw [hs]
  simp [Result.andThen, sliced, cutAt]

/-- The two boxes that union lays for its arguments. -/
structure Boxed (b : Nat) (p x : Value) (w : World) : Prop where
  c0 : w.cell? ⟨b, 0, none⟩ = some p
  c1 : w.cell? ⟨b, 1, none⟩ = some x
theorem Boxed.later {b : Nat} {p x : Value} {w w' : World} (h : Boxed b p x w) (hb : Below w.heap.size w w') : Boxed b p x w' := by
  have hlt : b < w.heap.size := World.block_lt_of_cell? _ _ h.c0
  exact ⟨(hb.cell hlt).trans h.c0, (hb.cell hlt).trans h.c1⟩
theorem Boxed.new (w : World) (p x : Value) (t : TypeId) : Boxed w.heap.size p x (w.alloc (.cells #[p, x] t)) := ⟨by simp, by simp⟩

/-- The world behind the two boxes. -/
def box2 (w : World) (p1 x1 p2 x2 : Value) : World := (w.alloc (.cells #[p1, x1] 29)).alloc (.cells #[p2, x2] 29)
theorem box2_below (w : World) (p1 x1 p2 x2 : Value) : Below w.heap.size w (box2 w p1 x1 p2 x2) := ((Below.refl _ w).alloc (Nat.le_refl _) _).alloc (by simp) _
theorem box2_second (w : World) (p1 x1 p2 x2 : Value) : Boxed (w.heap.size + 1) p2 x2 (box2 w p1 x1 p2 x2) := by
  have h := Boxed.new (w.alloc (.cells #[p1, x1] 29)) p2 x2 29
  simpa [box2] using h

theorem grownBy_of_below {w w' : World} (h : Below w.heap.size w w') : w.grownBy w' none := ⟨h.os, h.tape, h.output, h.size, fun k hk _ => h.block k hk⟩
theorem own_below {base : Nat} {v : Value} {n : Nat} {xs : List Value} {w w' : World} (h : w.ownsRow base 9 1 v n xs) (hb : Below w.heap.size w w') : w'.ownsRow base 9 1 v n xs :=
  h.kept (grownBy_of_below hb) (by cases hv : v.ownBlock <;> simp)
/-- Union's make. -/
theorem run_room (w : World) (n m : Nat) (hn : n ≤ 4096) (hm : m ≤ 4096) (base : Nat) (hb : base ≤ w.heap.size) :
    ∃ v w', (Instr.makeSlice 22 (.int .i64 0) (.int .i64 ((n : Int) + (m : Int)))).run Try.prog w = .ok v w' ∧ (∃ c, v = .slice (some ⟨w.heap.size, 0, none⟩) 0 c) ∧ w'.ownsRow base 9 1 v 0 [] ∧ w.grownBy w' none := by
  obtain ⟨i0, hi, hz0, hz1, hz2⟩ := info_parts Try.info9
  obtain ⟨w', h1, h2, h3⟩ := run_make_own (P := Try.prog) w base 22 9 i0 _ 1 Try.underlying22 hi hz0 hz1 .i64 .i64 (n + m) (by rw [hz2]; omega) (by unfold maxLen; omega) hb
  rw [Int.natCast_add] at h1
  exact ⟨_, w', h1, ⟨_, rfl⟩, h2, h3⟩

/-- How union ends. -/
def UnionEnds (f : Nat → ByteArray) (na : Nat) (g : Nat → ByteArray) (nb : Nat) (w : World) (e : Ending) (w' : World) : Prop :=
  ∃ (L : List ByteArray) (su : Option Addr) (cu : Nat), e = .returned (.slice su L.length cu) ∧ UnionOf f na g nb L ∧ Strs w' w'.heap.size su L.length (fun i => L.getD i ByteArray.empty) ∧ Below w.heap.size w w'

/-- The names that are left, in memory. -/
theorem rest_cells {w wr : World} {b off n i c : Nat} {f : Nat → ByteArray} (h : Strs w w.heap.size (some ⟨b, off, none⟩) n f) (hW : Below w.heap.size w wr) (hc : n ≤ c) :
    ∃ ad, cutAt (some ⟨b, off, none⟩) i c = some ad ∧ ∀ j u, ((rest f i n).map Value.string)[j]? = some u → wr.cell? (ad.add j) = some u := by
  by_cases hci : c = i
  · refine ⟨⟨b, off, none⟩, by simp [cutAt, hci], fun j u hj => ?_⟩
    have hl := (List.getElem?_eq_some_iff.1 hj).1
    rw [List.length_map, rest_length] at hl
    omega
  · refine ⟨⟨b, off + i, none⟩, by simp [cutAt, hci, addr_add], fun j u hj => ?_⟩
    have hl := (List.getElem?_eq_some_iff.1 hj).1
    rw [List.length_map, rest_length] at hl
    rw [List.getElem?_map, rest_get f i n j hl] at hj
    simp at hj
    subst hj
    obtain ⟨b', off', e, hb, hcell⟩ := h (i + j) (by omega)
    obtain ⟨rfl, rfl⟩ : b' = b ∧ off' = off := by simpa [eq_comm] using e
    rw [addr_add, Nat.add_assoc]
    exact (hW.cell (p := ⟨b', off' + (i + j), none⟩) hb).trans hcell
theorem own_rest {base : Nat} {w1 : World} {v' : Value} {L : List ByteArray} {f : Nat → ByteArray} {i n : Nat} (h : w1.ownsRow base 9 1 v' (L.length + (n - i)) (L.map Value.string ++ (rest f i n).map Value.string)) : w1.ownsRow base 9 1 v' (L ++ rest f i n).length ((L ++ rest f i n).map Value.string) := by
  rw [List.length_append, rest_length, List.map_append]
  exact h

set_option maxHeartbeats 1000000 in
theorem union_any (r1 r2 : Nat) (sa : Option Addr) (na ca : Nat) (sb : Option Addr) (nb cb : Nat) (s1 : Option Addr) (n1 c1 : Nat) (s2 : Option Addr) (n2 c2 : Nat) (f g : Nat → ByteArray) (w : World)
    (hna : na ≤ 4096) (hnb : nb ≤ 4096) (hr1 : w.cell? ⟨r1, 1, none⟩ = some (.slice sa na ca)) (hr2 : w.cell? ⟨r2, 1, none⟩ = some (.slice sb nb cb))
    (hsa : (sa = none ∧ na = 0 ∧ ca = 0) ∨ ∃ b off, sa = some ⟨b, off, none⟩) (hcap : na ≤ ca) (hA : Strs w w.heap.size sa na f) (hB : Strs w w.heap.size sb nb g) (hf : Rises f na) (hg : Rises g nb) :
    Calls Try.prog 27 #[.agg #[.pointer (some ⟨r1, 0, none⟩), .slice s1 n1 c1], .agg #[.pointer (some ⟨r2, 0, none⟩), .slice s2 n2 c2]] w fun e w' => UnionEnds f na g nb w e w' := by
  obtain ⟨i0, hi, hz0, hz1, hz2⟩ := info_parts Try.info9
  have HA : Hid (Strs w w.heap.size sa na f) := hA
  have HB : Hid (Strs w w.heap.size sb nb g) := hB
  have HF : Hid (Rises f na) := hf
  have HG : Hid (Rises g nb) := hg
  have HR1 : Hid (w.cell? ⟨r1, 1, none⟩ = some (.slice sa na ca)) := hr1
  have HR2 : Hid (w.cell? ⟨r2, 1, none⟩ = some (.slice sb nb cb)) := hr2
  have HSA : Hid ((sa = none ∧ na = 0 ∧ ca = 0) ∨ ∃ b off, sa = some ⟨b, off, none⟩) := hsa
  have hl1 : r1 < w.heap.size := World.block_lt_of_cell? _ _ hr1
  have hl2 : r2 < w.heap.size := World.block_lt_of_cell? _ _ hr2
  clear hA hB hf hg hr1 hr2 hsa
  have B2 := hid (box2_below w (.pointer (some ⟨r1, 0, none⟩)) (.slice s1 n1 c1) (.pointer (some ⟨r2, 0, none⟩)) (.slice s2 n2 c2))
  have X2 := hid (box2_second w (.pointer (some ⟨r1, 0, none⟩)) (.slice s1 n1 c1) (.pointer (some ⟨r2, 0, none⟩)) (.slice s2 n2 c2))
  go_enter Try.func27, Try.ntmps27
  go_wp2_with fail
  refine (names_below r1 sa na ca s1 n1 c1 (box2 w (.pointer (some ⟨r1, 0, none⟩)) (.slice s1 n1 c1) (.pointer (some ⟨r2, 0, none⟩)) (.slice s2 n2 c2)) ((B2.out.cell hl1).trans HR1.out)).mono ?_
  rintro e w1 ⟨rfl, hb1⟩
  have Y1 := hid (X2.out.later hb1)
  have B1 := (show Hid (Below w.heap.size w w1) from B2.out.trans (hb1.mono B2.out.size))
  clear hb1 B2 X2
  have y0 := Y1.out.c0
  have y1 := Y1.out.c1
  go_wp2_with fail
  refine (names_below r2 sb nb cb s2 n2 c2 w1 ((B1.out.cell hl2).trans HR2.out)).mono ?_
  rintro e w2 ⟨rfl, hb2⟩
  have Y2 := hid (Y1.out.later hb2)
  have D2 := (show Hid (Below w.heap.size w w2) from B1.out.trans (hb2.mono B1.out.size))
  clear hb2 B1 Y1 y0 y1
  obtain ⟨v0, w3, hmk, ⟨cv, rfl⟩, hown0, hgr0⟩ := run_room w2 na nb hna hnb w.heap.size D2.out.size
  have D3 := (show Hid (Below w.heap.size w w3) from D2.out.grown hgr0 D2.out.size (fun k hk => by cases hk))
  have Y3 := hid (Y2.out.later (Below.grown (Below.refl w2.heap.size w2) hgr0 (Nat.le_refl _) (fun k hk => by cases hk)))
  have O3 := (show Hid (w3.ownsRow w.heap.size 9 1 (.slice (some ⟨w2.heap.size, 0, none⟩) 0 cv) 0 []) from hown0)
  have y0 := Y3.out.c0
  have y1 := Y3.out.c1
  clear hown0 hgr0 D2 Y2
  generalize hg2 : w2.heap.size = g2 at *
  clear hg2
  go_wp2_with fail
  refine (names_below r2 sb nb cb s2 n2 c2 w3 ((D3.out.cell hl2).trans HR2.out)).mono ?_
  rintro e w4 ⟨rfl, hb4⟩
  have D4 := (show Hid (Below w.heap.size w w4) from D3.out.trans (hb4.mono D3.out.size))
  have O4 := (show Hid (w4.ownsRow w.heap.size 9 1 (.slice (some ⟨g2, 0, none⟩) 0 cv) 0 []) from own_below O3.out hb4)
  clear hb4 D3 O3 y0 y1 Y3 hmk
  go_wp2
  go_loopg [6, 7, 22] nb (fun k v i t wr => ∃ (ii tt : Nat) (L : List ByteArray), k = nb - tt ∧ i = .int .i64 (ii : Int) ∧ t = .int .i64 (tt : Int) ∧ Merged f na g nb ii tt L ∧ wr.ownsRow w.heap.size 9 1 v L.length (L.map Value.string) ∧ Below w.heap.size w wr)
  case atStart => exact ⟨0, 0, [], rfl, rfl, rfl, Merged.start, O4.out, D4.out⟩
  case round =>
    clear D4 O4
    obtain ⟨ii, tt, L, hk, rfl, rfl, hM, hO, hW⟩ := hrel
    have HK : Hid (gk = nb - tt) := hk
    have HM : Hid (Merged f na g nb ii tt L) := hM
    have HO := hid (hO)
    have HW : Hid (Below w.heap.size w wr) := hW
    have hii := hM.hi
    have htt := hM.ht
    clear hk hM hO hW
    by_cases hlt : tt < nb
    · have hlt' : (tt : Int) < (nb : Int) := by omega
      obtain ⟨b, off, rfl, hbB, hcB⟩ := HB.out tt hlt
      have hcB' := (HW.out.cell (p := ⟨b, off + tt, none⟩) hbB).trans hcB
      go_wp2
      obtain ⟨wo, rfl⟩ : ∃ wo : World, wo = wr := ⟨_, rfl⟩
      obtain ⟨go, rfl⟩ : ∃ go : Nat, go = gk := ⟨_, rfl⟩
      clear hcB hcB' hlt'
      go_loopg [6, 7] (na - ii) (fun k v i wr => ∃ (jj : Nat) (M : List ByteArray), k = na - jj ∧ i = .int .i64 (jj : Int) ∧ Merged f na g nb jj tt M ∧ wr.ownsRow w.heap.size 9 1 v M.length (M.map Value.string) ∧ Below w.heap.size w wr)
      case atStart => exact ⟨ii, L, rfl, rfl, HM.out, HO.out, HW.out⟩
      case round =>
        clear HM HO HW hii htt
        obtain ⟨jj, M, hk, rfl, hN, hP, hX⟩ := hrel
        have HL : Hid (gk = na - jj) := hk
        have HN : Hid (Merged f na g nb jj tt M) := hN
        have HP := hid (hP)
        have HX : Hid (Below w.heap.size w wr) := hX
        have hjj := hN.hi
        clear hk hN hP hX
        by_cases hj : jj < na
        · have hj' : (jj : Int) < (na : Int) := by omega
          obtain ⟨b1, off1, rfl, hb1, hc1⟩ := HA.out jj hj
          have hcA := (HX.out.cell (p := ⟨b1, off1 + jj, none⟩) hb1).trans hc1
          clear hc1
          cases hb : Op.bytesLess (f jj).toList (g tt).toList
          · cases he : ((f jj).toList == (g tt).toList)
            · have hgt : Op.bytesLess (g tt).toList (f jj).toList = true := by
                cases hgt : Op.bytesLess (g tt).toList (f jj).toList
                · have := bl_total _ _ hb hgt
                  rw [this] at he; simp at he
                · rfl
              have HGT : Hid (Op.bytesLess (g tt).toList (f jj).toList = true) := hgt
              clear hgt
              go_wp2_with (at_builtin; refine wpList_append_own _ rfl _ _ 22 rfl w.heap.size 9 i0 (.string ⟨#[]⟩) 1 16 Try.underlying22 hi hz0 hz1 hz2 rfl (by decide) u6 M.length (M.map Value.string) rfl (HP.out.alloc _) ⟨wr.heap.size, 0, none⟩ 1 1 [.string (g tt)] rfl rfl ?c1 ?c2 ?c3 ?c4 ?c5 ?_)
              case c1 =>
                intro j u hj
                match j, hj with
                | 0, hj => simp at hj; subst hj; simp [Addr.add]
              case c2 => intro u hu; simp at hu; subst hu; rfl
              case c3 => have := HN.out.len; have := HN.out.hi; have := HN.out.ht; unfold maxLen; omega
              case c4 => have := HN.out.len; have := HN.out.hi; have := HN.out.ht; omega
              case c5 => have := HX.out.size; simp; omega
              intro v' w5 hown' hgrow _
              have hnew := own_snoc hown'
              have hbel := bel_snoc HX.out HX.out.size HP.out hgrow
              have HO5 := hid hnew
              have HB5 : Hid (Below w.heap.size w w5) := hbel
              have HM5 := hid (HN.out.other HF.out HG.out hlt jj (.inl ⟨rfl, fun _ => HGT.out⟩))
              clear hown' hgrow hnew hbel
              go_wp2
              go_roundg (nb - (tt + 1))
              case measure => rw [HK.out]; omega
              case rel => exact ⟨jj, tt + 1, _, rfl, by go_num, by go_num, HM5.out, HO5.out, HB5.out⟩
            · have HEQ : Hid (f jj = g tt) := toList_inj (by simpa using he)
              go_wp2_with (at_builtin; refine wpList_append_own _ rfl _ _ 22 rfl w.heap.size 9 i0 (.string ⟨#[]⟩) 1 16 Try.underlying22 hi hz0 hz1 hz2 rfl (by decide) u6 M.length (M.map Value.string) rfl (HP.out.alloc _) ⟨wr.heap.size, 0, none⟩ 1 1 [.string (g tt)] rfl rfl ?c1 ?c2 ?c3 ?c4 ?c5 ?_)
              case c1 =>
                intro j u hj
                match j, hj with
                | 0, hj => simp at hj; subst hj; simp [Addr.add]
              case c2 => intro u hu; simp at hu; subst hu; rfl
              case c3 => have := HN.out.len; have := HN.out.hi; have := HN.out.ht; unfold maxLen; omega
              case c4 => have := HN.out.len; have := HN.out.hi; have := HN.out.ht; omega
              case c5 => have := HX.out.size; simp; omega
              intro v' w5 hown' hgrow _
              have hnew := own_snoc hown'
              have hbel := bel_snoc HX.out HX.out.size HP.out hgrow
              have HO5 := hid hnew
              have HB5 : Hid (Below w.heap.size w w5) := hbel
              have HM5 := hid (HN.out.other HF.out HG.out hlt (jj + 1) (.inr ⟨rfl, hj, HEQ.out⟩))
              clear hown' hgrow hnew hbel
              go_wp2
              go_roundg (nb - (tt + 1))
              case measure => rw [HK.out]; omega
              case rel => exact ⟨jj + 1, tt + 1, _, rfl, by go_num, by go_num, HM5.out, HO5.out, HB5.out⟩
          · have HBL : Hid (Op.bytesLess (f jj).toList (g tt).toList = true) := hb
            go_wp2_with (at_builtin; refine wpList_append_own _ rfl _ _ 22 rfl w.heap.size 9 i0 (.string ⟨#[]⟩) 1 16 Try.underlying22 hi hz0 hz1 hz2 rfl (by decide) u6 M.length (M.map Value.string) rfl (HP.out.alloc _) ⟨wr.heap.size, 0, none⟩ 1 1 [.string (f jj)] rfl rfl ?c1 ?c2 ?c3 ?c4 ?c5 ?_)
            case c1 =>
              intro j u hj
              match j, hj with
              | 0, hj => simp at hj; subst hj; simp [Addr.add]
            case c2 => intro u hu; simp at hu; subst hu; rfl
            case c3 => have := HN.out.len; have := HN.out.hi; have := HN.out.ht; unfold maxLen; omega
            case c4 => have := HN.out.len; have := HN.out.hi; have := HN.out.ht; omega
            case c5 => have := HX.out.size; simp; omega
            intro v' w5 hown' hgrow _
            have hnew := own_snoc hown'
            have hbel := bel_snoc HX.out HX.out.size HP.out hgrow
            have hmer := HN.out.name HF.out HG.out hj hlt HBL.out
            have HO5 := hid (hnew)
            have HB5 := (show Hid (Below w.heap.size w w5) from hbel)
            have HM5 := hid (hmer)
            clear hown' hgrow hnew hbel hmer hb
            go_wp2
            go_roundg (na - (jj + 1))
            case measure => rw [HL.out]; omega
            case rel => exact ⟨jj + 1, _, rfl, by go_num, HM5.out, HO5.out, HB5.out⟩
        · go_wp2_with (at_builtin; refine wpList_append_own _ rfl _ _ 22 rfl w.heap.size 9 i0 (.string ⟨#[]⟩) 1 16 Try.underlying22 hi hz0 hz1 hz2 rfl (by decide) u6 M.length (M.map Value.string) rfl (HP.out.alloc _) ⟨wr.heap.size, 0, none⟩ 1 1 [.string (g tt)] rfl rfl ?c1 ?c2 ?c3 ?c4 ?c5 ?_)
          case c1 =>
            intro j u hj
            match j, hj with
            | 0, hj => simp at hj; subst hj; simp [Addr.add]
          case c2 => intro u hu; simp at hu; subst hu; rfl
          case c3 => have := HN.out.len; have := HN.out.hi; have := HN.out.ht; unfold maxLen; omega
          case c4 => have := HN.out.len; have := HN.out.hi; have := HN.out.ht; omega
          case c5 => have := HX.out.size; simp; omega
          intro v' w5 hown' hgrow _
          have hnew := own_snoc hown'
          have hbel := bel_snoc HX.out HX.out.size HP.out hgrow
          have HO5 := hid hnew
          have HB5 : Hid (Below w.heap.size w w5) := hbel
          have HM5 := hid (HN.out.other HF.out HG.out hlt jj (.inl ⟨rfl, fun h => absurd h hj⟩))
          clear hown' hgrow hnew hbel
          go_wp2
          go_roundg (nb - (tt + 1))
          case measure => rw [HK.out]; omega
          case rel => exact ⟨jj, tt + 1, _, rfl, by go_num, by go_num, HM5.out, HO5.out, HB5.out⟩
    · obtain rfl : tt = nb := by omega
      have hsl := run_cut sa na ca ii hii
      have HU := hid (HM.out.done HF.out)
      rcases HSA.out with ⟨h1, h2, h3⟩ | ⟨b, off, h1⟩
      · subst h1 h2 h3
        obtain rfl : ii = 0 := by omega
        rw [show cutAt none 0 0 = none from rfl] at hsl
        go_wp2_with (at_builtin; refine wpList_append_own_none rfl _ _ 22 rfl w.heap.size 9 i0 1 Try.underlying22 hi u6 L.length (L.map Value.string) rfl HO.out rfl ?_)
        go_ret
        obtain ⟨su, cu, hv, hS⟩ := strs_of_own HO.out
        exact ⟨L, su, cu, congrArg Ending.returned hv, by simpa [rest] using HU.out, hS, HW.out⟩
      · subst h1
        obtain ⟨ad, hcut, hcells⟩ := rest_cells (i := ii) HA.out HW.out hcap
        rw [hcut] at hsl
        have HCE := hid hcells
        clear hcells hcut
        go_wp2_with (at_builtin; refine wpList_append_own _ rfl _ _ 22 rfl w.heap.size 9 i0 (.string ⟨#[]⟩) 1 16 Try.underlying22 hi hz0 hz1 hz2 rfl (by decide) u6 L.length (L.map Value.string) rfl HO.out ad (na - ii) (ca - ii) ((rest f ii na).map Value.string) rfl (by rw [List.length_map, rest_length]; omega) HCE.out ?c2 ?c3 ?c4 ?c5 ?_)
        case c2 => intro u hu; obtain ⟨x, _, rfl⟩ := List.mem_map.1 hu; rfl
        case c3 => have := HM.out.len; unfold maxLen; omega
        case c4 => have := HM.out.len; omega
        case c5 => exact HW.out.size
        intro v' w5 hown' hgrow _
        have HO5 := hid (own_rest hown')
        have HB5 : Hid (Below w.heap.size w w5) := HW.out.grown hgrow HW.out.size (fun k hk => (HO.out.lt k hk).1)
        clear hown' hgrow
        go_wp2
        go_ret
        obtain ⟨su, cu, hv, hS⟩ := strs_of_own HO5.out
        exact ⟨_, su, cu, congrArg Ending.returned hv, HU.out, hS, HB5.out⟩

set_option maxHeartbeats 400000 in
theorem zzunion_any (r1 r2 : Nat) (sa : Option Addr) (na ca : Nat) (sb : Option Addr) (nb cb : Nat) (s1 : Option Addr) (n1 c1 : Nat) (s2 : Option Addr) (n2 c2 : Nat) (f g : Nat → ByteArray) (w : World)
    (hna : na ≤ 4096) (hnb : nb ≤ 4096) (hr1 : w.cell? ⟨r1, 1, none⟩ = some (.slice sa na ca)) (hr2 : w.cell? ⟨r2, 1, none⟩ = some (.slice sb nb cb))
    (hsa : (sa = none ∧ na = 0 ∧ ca = 0) ∨ ∃ b off, sa = some ⟨b, off, none⟩) (hcap : na ≤ ca) (hA : Strs w w.heap.size sa na f) (hB : Strs w w.heap.size sb nb g) (hf : Rises f na) (hg : Rises g nb) :
    Calls Try.prog 20 #[.agg #[.pointer (some ⟨r1, 0, none⟩), .slice s1 n1 c1], .agg #[.pointer (some ⟨r2, 0, none⟩), .slice s2 n2 c2]] w fun e w' => UnionEnds f na g nb w e w' := by
  have B2 := hid (box2_below w (.pointer (some ⟨r1, 0, none⟩)) (.slice s1 n1 c1) (.pointer (some ⟨r2, 0, none⟩)) (.slice s2 n2 c2))
  have hl1 : r1 < w.heap.size := World.block_lt_of_cell? _ _ hr1
  have hl2 : r2 < w.heap.size := World.block_lt_of_cell? _ _ hr2
  have HC := hid (union_any r1 r2 sa na ca sb nb cb s1 n1 c1 s2 n2 c2 f g (box2 w (.pointer (some ⟨r1, 0, none⟩)) (.slice s1 n1 c1) (.pointer (some ⟨r2, 0, none⟩)) (.slice s2 n2 c2)) hna hnb
    ((B2.out.cell hl1).trans hr1) ((B2.out.cell hl2).trans hr2) hsa hcap ((hA.later B2.out).mono B2.out.size) ((hB.later B2.out).mono B2.out.size) hf hg)
  clear hr1 hr2 hA hB hf hg hsa
  go_enter Try.func20, Try.ntmps20
  go_wp2_with fail
  refine HC.out.mono ?_
  rintro e w1 ⟨L, su, cu, rfl, hU, hS, hb⟩
  have HU := hid hU
  have HS := hid hS
  have HB : Hid (Below w.heap.size w w1) := B2.out.trans (hb.mono B2.out.size)
  clear hU hS hb B2 HC
  go_wp2
  go_ret
  exact ⟨L, su, cu, rfl, HU.out, HS.out, HB.out⟩
end Go.Proofs.Qxb6617169a
