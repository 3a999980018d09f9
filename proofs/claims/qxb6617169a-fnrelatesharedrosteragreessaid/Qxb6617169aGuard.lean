/-
  WALKS of the guards: zzOver and the four zzBytes: they answer some bool and change nothing.
-/
import Derived.Test.Qxb6617169aLeaf
namespace Go.Proofs.Qxb6617169a
open Go.RowKit

/-- It answers some bool. -/
def SomeBool (e : Ending) : Prop := ∃ b, e = .returned (.bool b)
theorem SomeBool.mk (b : Bool) : SomeBool (.returned (.bool b)) := ⟨b, rfl⟩

set_option maxHeartbeats 400000 in
theorem over_any (sa : Option Addr) (na ca : Nat) (sb : Option Addr) (nb cb : Nat) (x : ByteArray) (words : Int) (B B' : Nat) (f g : Nat → ByteArray) (w : World) (hna : na ≤ 1048576) (hnb : nb ≤ 1048576) (hA : Strs w B sa na f) (hB : Strs w B' sb nb g) :
    Calls Try.prog 8 #[.slice sa na ca, .slice sb nb cb, .string x, .int .i64 words] w fun e w' => SomeBool e ∧ w' = w := by
  have HA : Hid (Strs w B sa na f) := hA
  have HB : Hid (Strs w B' sb nb g) := hB
  clear hA hB
  go_enter Try.func8, Try.ntmps8
  go_wp2
  · go_ret
    exact ⟨SomeBool.mk _, rfl⟩
  · go_ret
    exact ⟨SomeBool.mk _, rfl⟩
  go_loop [9, 10] (fun t i => ∃ (j : Nat) (z : Int), j ≤ na ∧ i = .int .i64 (j : Int) ∧ t = .int .i64 z) (fun _ i => na - (intOf i).toNat)
  case atStart => exact ⟨0, _, by omega, rfl, rfl⟩
  case round =>
    obtain ⟨j, z, hj, rfl, rfl⟩ := hrel
    by_cases hlt : j < na
    · obtain ⟨b, off, rfl, _, hc⟩ := HA.out j hlt
      have hlt' : (j : Int) < (na : Int) := by omega
      go_wp2
      · go_ret
        exact ⟨SomeBool.mk _, rfl⟩
      · go_round
        case rel => exact ⟨j + 1, _, by omega, by go_num, rfl⟩
        case measure => simp [intOf]; omega
    · go_wp2
      go_loop [9, 11] (fun t i => ∃ (j : Nat) (z : Int), j ≤ nb ∧ i = .int .i64 (j : Int) ∧ t = .int .i64 z) (fun _ i => nb - (intOf i).toNat)
      case atStart => exact ⟨0, _, by omega, rfl, rfl⟩
      case round =>
        obtain ⟨j, z, hj, rfl, rfl⟩ := hrel
        by_cases hlt : j < nb
        · obtain ⟨b, off, rfl, _, hc⟩ := HB.out j hlt
          have hlt' : (j : Int) < (nb : Int) := by omega
          go_wp2
          · go_ret
            exact ⟨SomeBool.mk _, rfl⟩
          · go_round
            case rel => exact ⟨j + 1, _, by omega, by go_num, rfl⟩
            case measure => simp [intOf]; omega
        · go_wp2
          go_ret
          exact ⟨SomeBool.mk _, rfl⟩

set_option maxHeartbeats 1000000 in
theorem bytes19_any (sa : Option Addr) (na ca : Nat) (s1 : Option Addr) (n1 c1 : Nat) (sb : Option Addr) (nb cb : Nat) (s2 : Option Addr) (n2 c2 : Nat) (B B' : Nat) (f g : Nat → ByteArray) (w : World) (hA : Strs w B sa na f) (hB : Strs w B' sb nb g) :
    Calls Try.prog 19 #[.slice sa na ca, .slice s1 n1 c1, .slice sb nb cb, .slice s2 n2 c2] w fun e w' => SomeBool e ∧ w' = w := by
  have HA : Hid (Strs w B sa na f) := hA
  have HB : Hid (Strs w B' sb nb g) := hB
  clear hA hB
  by_cases hna : na ≤ 1048576
  · go_enter Try.func19, Try.ntmps19
    go_wp2
    go_loop [9, 10] (fun t i => ∃ (j : Nat) (z : Int), j ≤ na ∧ i = .int .i64 (j : Int) ∧ t = .int .i64 z) (fun _ i => na - (intOf i).toNat)
    case atStart => exact ⟨0, _, by omega, rfl, rfl⟩
    case round =>
      obtain ⟨j, z, hj, rfl, rfl⟩ := hrel
      by_cases hlt : j < na
      · obtain ⟨b, off, rfl, _, hc⟩ := HA.out j hlt
        have hlt' : (j : Int) < (na : Int) := by omega
        go_wp2
        · go_ret; exact ⟨SomeBool.mk _, rfl⟩
        · go_ret; exact ⟨SomeBool.mk _, rfl⟩
        · go_round
          case rel => exact ⟨j + 1, _, by omega, by go_num, rfl⟩
          case measure => simp [intOf]; omega
      · by_cases hnb : nb ≤ 1048576
        · go_wp2
          · go_ret; exact ⟨SomeBool.mk _, rfl⟩
          · go_ret; exact ⟨SomeBool.mk _, rfl⟩
          · go_ret; exact ⟨SomeBool.mk _, rfl⟩
          go_loop [9, 11] (fun t i => ∃ (j : Nat) (z : Int), j ≤ nb ∧ i = .int .i64 (j : Int) ∧ t = .int .i64 z) (fun _ i => nb - (intOf i).toNat)
          case atStart => exact ⟨0, _, by omega, rfl, rfl⟩
          case round =>
            obtain ⟨j, z, hj, rfl, rfl⟩ := hrel
            by_cases hlt : j < nb
            · obtain ⟨b, off, rfl, _, hc⟩ := HB.out j hlt
              have hlt' : (j : Int) < (nb : Int) := by omega
              go_wp2
              · go_ret; exact ⟨SomeBool.mk _, rfl⟩
              · go_ret; exact ⟨SomeBool.mk _, rfl⟩
              · go_round
                case rel => exact ⟨j + 1, _, by omega, by go_num, rfl⟩
                case measure => simp [intOf]; omega
            · go_wp2
              all_goals (go_ret; exact ⟨SomeBool.mk _, rfl⟩)
        · go_wp2
          all_goals (go_ret; exact ⟨SomeBool.mk _, rfl⟩)
  · go_enter Try.func19, Try.ntmps19
    go_wp2
    go_ret; exact ⟨SomeBool.mk _, rfl⟩

set_option maxHeartbeats 1000000 in
theorem bytes17_any (sa : Option Addr) (na ca : Nat) (s1 : Option Addr) (n1 c1 : Nat) (sb : Option Addr) (nb cb : Nat) (s2 : Option Addr) (n2 c2 : Nat) (B B' : Nat) (f g : Nat → ByteArray) (w : World) (hA : Strs w B sa na f) (hB : Strs w B' sb nb g) :
    Calls Try.prog 17 #[.slice sa na ca, .slice s1 n1 c1, .slice sb nb cb, .slice s2 n2 c2] w fun e w' => SomeBool e ∧ w' = w := by
  have HA : Hid (Strs w B sa na f) := hA
  have HB : Hid (Strs w B' sb nb g) := hB
  clear hA hB
  by_cases hna : na ≤ 1048576
  · go_enter Try.func17, Try.ntmps17
    go_wp2
    go_loop [9, 10] (fun t i => ∃ (j : Nat) (z : Int), j ≤ na ∧ i = .int .i64 (j : Int) ∧ t = .int .i64 z) (fun _ i => na - (intOf i).toNat)
    case atStart => exact ⟨0, _, by omega, rfl, rfl⟩
    case round =>
      obtain ⟨j, z, hj, rfl, rfl⟩ := hrel
      by_cases hlt : j < na
      · obtain ⟨b, off, rfl, _, hc⟩ := HA.out j hlt
        have hlt' : (j : Int) < (na : Int) := by omega
        go_wp2
        · go_ret; exact ⟨SomeBool.mk _, rfl⟩
        · go_ret; exact ⟨SomeBool.mk _, rfl⟩
        · go_round
          case rel => exact ⟨j + 1, _, by omega, by go_num, rfl⟩
          case measure => simp [intOf]; omega
      · by_cases hnb : nb ≤ 1048576
        · go_wp2
          · go_ret; exact ⟨SomeBool.mk _, rfl⟩
          · go_ret; exact ⟨SomeBool.mk _, rfl⟩
          · go_ret; exact ⟨SomeBool.mk _, rfl⟩
          go_loop [9, 11] (fun t i => ∃ (j : Nat) (z : Int), j ≤ nb ∧ i = .int .i64 (j : Int) ∧ t = .int .i64 z) (fun _ i => nb - (intOf i).toNat)
          case atStart => exact ⟨0, _, by omega, rfl, rfl⟩
          case round =>
            obtain ⟨j, z, hj, rfl, rfl⟩ := hrel
            by_cases hlt : j < nb
            · obtain ⟨b, off, rfl, _, hc⟩ := HB.out j hlt
              have hlt' : (j : Int) < (nb : Int) := by omega
              go_wp2
              · go_ret; exact ⟨SomeBool.mk _, rfl⟩
              · go_ret; exact ⟨SomeBool.mk _, rfl⟩
              · go_round
                case rel => exact ⟨j + 1, _, by omega, by go_num, rfl⟩
                case measure => simp [intOf]; omega
            · go_wp2
              all_goals (go_ret; exact ⟨SomeBool.mk _, rfl⟩)
        · go_wp2
          all_goals (go_ret; exact ⟨SomeBool.mk _, rfl⟩)
  · go_enter Try.func17, Try.ntmps17
    go_wp2
    go_ret; exact ⟨SomeBool.mk _, rfl⟩

set_option maxHeartbeats 1000000 in
theorem bytes7_any (sa : Option Addr) (na ca : Nat) (s1 : Option Addr) (n1 c1 : Nat) (sb : Option Addr) (nb cb : Nat) (s2 : Option Addr) (n2 c2 : Nat) (B B' : Nat) (f g : Nat → ByteArray) (w : World) (hA : Strs w B sa na f) (hB : Strs w B' sb nb g) :
    Calls Try.prog 7 #[.slice sa na ca, .slice s1 n1 c1, .slice sb nb cb, .slice s2 n2 c2] w fun e w' => SomeBool e ∧ w' = w := by
  have HA : Hid (Strs w B sa na f) := hA
  have HB : Hid (Strs w B' sb nb g) := hB
  clear hA hB
  by_cases hna : na ≤ 1048576
  · go_enter Try.func7, Try.ntmps7
    go_wp2
    go_loop [9, 10] (fun t i => ∃ (j : Nat) (z : Int), j ≤ na ∧ i = .int .i64 (j : Int) ∧ t = .int .i64 z) (fun _ i => na - (intOf i).toNat)
    case atStart => exact ⟨0, _, by omega, rfl, rfl⟩
    case round =>
      obtain ⟨j, z, hj, rfl, rfl⟩ := hrel
      by_cases hlt : j < na
      · obtain ⟨b, off, rfl, _, hc⟩ := HA.out j hlt
        have hlt' : (j : Int) < (na : Int) := by omega
        go_wp2
        · go_ret; exact ⟨SomeBool.mk _, rfl⟩
        · go_ret; exact ⟨SomeBool.mk _, rfl⟩
        · go_round
          case rel => exact ⟨j + 1, _, by omega, by go_num, rfl⟩
          case measure => simp [intOf]; omega
      · by_cases hnb : nb ≤ 1048576
        · go_wp2
          · go_ret; exact ⟨SomeBool.mk _, rfl⟩
          · go_ret; exact ⟨SomeBool.mk _, rfl⟩
          · go_ret; exact ⟨SomeBool.mk _, rfl⟩
          go_loop [9, 11] (fun t i => ∃ (j : Nat) (z : Int), j ≤ nb ∧ i = .int .i64 (j : Int) ∧ t = .int .i64 z) (fun _ i => nb - (intOf i).toNat)
          case atStart => exact ⟨0, _, by omega, rfl, rfl⟩
          case round =>
            obtain ⟨j, z, hj, rfl, rfl⟩ := hrel
            by_cases hlt : j < nb
            · obtain ⟨b, off, rfl, _, hc⟩ := HB.out j hlt
              have hlt' : (j : Int) < (nb : Int) := by omega
              go_wp2
              · go_ret; exact ⟨SomeBool.mk _, rfl⟩
              · go_ret; exact ⟨SomeBool.mk _, rfl⟩
              · go_round
                case rel => exact ⟨j + 1, _, by omega, by go_num, rfl⟩
                case measure => simp [intOf]; omega
            · go_wp2
              all_goals (go_ret; exact ⟨SomeBool.mk _, rfl⟩)
        · go_wp2
          all_goals (go_ret; exact ⟨SomeBool.mk _, rfl⟩)
  · go_enter Try.func7, Try.ntmps7
    go_wp2
    go_ret; exact ⟨SomeBool.mk _, rfl⟩
end Go.Proofs.Qxb6617169a
