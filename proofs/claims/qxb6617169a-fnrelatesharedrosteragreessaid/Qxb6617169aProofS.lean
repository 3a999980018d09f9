import Derived.Test.Qxb6617169aRead
import Derived.Test.Qxb6617169aLawS
namespace Go.Proofs.Qxb6617169a
open Go.ChangeShapes Go.WideShapes Go.ChangeAt Go.RowKit

theorem lawS_any (sa : Option Addr) (na ca : Nat) (s1 : Option Addr) (n1 c1 : Nat) (s2 : Option Addr) (n2 c2 : Nat) (f : Nat → ByteArray) (x y : Nat → Int) (w : World)
    (ha : Any0 sa na ca) (h1 : Any0 s1 n1 c1) (h2 : Any0 s2 n2 c2)
    (hA : Strs w w.heap.size sa na f) (hX : Nums w w.heap.size s1 n1 x) (hY : Nums w w.heap.size s2 n2 y) (bX : ∀ i, i < n1 → 0 ≤ x i ∧ x i ≤ 18446744073709551615) (bY : ∀ i, i < n2 → 0 ≤ y i ∧ y i ≤ 18446744073709551615) :
    Calls Try.prog 4 #[.slice sa na ca, .slice s1 n1 c1, .slice s2 n2 c2] w fun e w' => e = .returned (.bool true) ∧ Below w.heap.size w w' := by
  by_cases hl : na ≤ 4096 ∧ n1 ≤ 4096 ∧ n2 ≤ 4096
  · by_cases ho : n1 = na ∧ n2 = na
    · obtain ⟨e1, e2⟩ := ho
      subst e1 e2
      exact lawS_main sa _ ca s1 c1 s2 c2 f x y w hl.1 bX bY ha h1 h2 hA hX hY
    · refine (lawS_odd sa na ca s1 n1 c1 s2 n2 c2 f w hl.1 hl.2.1 hl.2.2 ho hA).mono ?_
      rintro e w' ⟨rfl, rfl⟩
      exact ⟨rfl, Below.refl _ _⟩
  · refine (lawS_long sa na ca s1 n1 c1 s2 n2 c2 f w hl hA).mono ?_
    rintro e w' ⟨rfl, rfl⟩
    exact ⟨rfl, Below.refl _ _⟩

set_option maxHeartbeats 1000000 in
set_option maxRecDepth 100000 in
theorem lawS_lifted (os : Os) (started : os.Started) (H : Type) (enc : TypeId × Value → H) :
    ReturnsInHanded {} Try.checked os 4 .any (Rows.fnRelateSharedRosterAgreesSpec.pre6 enc Try.prog Try.f4 Rows.fnRelateSharedRosterAgreesRow.domain false) (Rows.fnRelateSharedRosterAgreesSpec.post enc Try.prog Try.f4 false true false false) := by
  refine returnsInHanded_of_change (C := Try.checked) Try.own started (by kernel_rfl) Try.func4
    (ChangeSpec.witness6 (enc := enc) (C := Try.checked) false ⟨#[], #[.slice none 0 0, .slice none 0 0, .slice none 0 0], []⟩ 8 (by kernel_rfl) (by kernel_rfl) (by kernel_rfl) (by kernel_rfl)) ?_
  intro W base args ds gs before hval0 hW hcnd _
  have hval : ∀ (j : Nat) t v, Try.f4.params[j]? = some t → args[j]? = some v → Value.okWide Try.prog W .any base t v := hval0
  have hW' := hW
  obtain ⟨p, q, hA0, hV, rfl, hfz, hnd⟩ := hW
  have hA : DataW.TrodAll enc Try.prog W 0 (fun _ => true) true Try.f4.params.toList args.toList ds p := hA0
  rw [Try.params4] at hA hval
  obtain ⟨v0, v1, v2, d0, d1, d2, p0, p1, p2, rfl, rfl, rfl, h0, h1, h2⟩ := trodAll_three hA
  obtain ⟨rfl, rfl⟩ := trodVars_none hV
  obtain ⟨sa, na, ca, rfl⟩ := okWide_slice Try.underlying22 (hval 0 22 v0 rfl rfl)
  obtain ⟨s1, n1, c1, rfl⟩ := okWide_slice Try.underlying23 (hval 1 23 v1 rfl rfl)
  obtain ⟨s2, n2, c2, rfl⟩ := okWide_slice Try.underlying23 (hval 2 23 v2 rfl rfl)
  clear hA0 hval0
  simp only [List.append_nil, List.append_assoc] at hW'
  have hlt : ∀ m ∈ p0 ++ (p1 ++ p2), m.block < W.heap.size := fun m hm => hW'.lt m hm
  have hargs : ∀ (W' : World), Below W.heap.size W W' → DataW.TrodAll enc Try.prog W' 0 (fun b => decide (b < W.heap.size)) true [22, 23, 23] [.slice sa na ca, .slice s1 n1 c1, .slice s2 n2 c2] [d0, d1, d2] (p0 ++ (p1 ++ p2)) := by
    intro W' hn
    refine trodAll_mk3 ?_ ?_ ?_
    · exact Below.trod Try.laidOut (by kernel_rfl) (of_decide_eq_true (by kernel_rfl)) h0 hn (fun m hm => hlt m (by simp [hm]))
    · exact Below.trod Try.laidOut (by kernel_rfl) (of_decide_eq_true (by kernel_rfl)) h1 hn (fun m hm => hlt m (by simp [hm]))
    · exact Below.trod Try.laidOut (by kernel_rfl) (of_decide_eq_true (by kernel_rfl)) h2 hn (fun m hm => hlt m (by simp [hm]))
  obtain ⟨fuel0, hf0⟩ := h0
  obtain ⟨fuel1, hf1⟩ := h1
  obtain ⟨fuel2, hf2⟩ := h2
  obtain ⟨f, ka, kA⟩ := strs_read hf0
  obtain ⟨x, k1, kX, bX⟩ := nums_read hf1
  obtain ⟨y, k2, kY, bY⟩ := nums_read hf2
  refine (lawS_any sa na ca s1 n1 c1 s2 n2 c2 f x y W ka k1 k2 kA kX kY bX bY).mono fun e W' ⟨he, hnx⟩ => ?_
  subst he
  refine ⟨_, rfl, _, _, _, [], p0 ++ (p1 ++ p2), [], hW', trodAll_mk1 (shut_bool Try.underlying4 _), ?_, rfl, hnx.frame _, fun h => by cases h⟩
  exact hargs W' hnx

theorem fnRelateShared_holds : Rows.FnRelateSharedRosterAgreesSaid :=
  OpenClaim.holds_of_wide 4 Try.f4 rfl rfl rfl rfl rfl rfl rfl ⟨rfl, rfl, rfl, rfl, rfl⟩ rfl rfl rfl rfl rfl (by kernel_rfl) Try.func4 (by kernel_rfl)
    (of_decide_eq_true (by kernel_rfl)) (by unfold Func.isWrapper; first | (rw [if_pos (by decide +kernel)]; kernel_rfl) | (rw [if_neg (by decide +kernel)]; exact ⟨rfl, rfl⟩))
    (fun os started H enc _ => lawS_lifted os started H enc)
end Go.Proofs.Qxb6617169a
