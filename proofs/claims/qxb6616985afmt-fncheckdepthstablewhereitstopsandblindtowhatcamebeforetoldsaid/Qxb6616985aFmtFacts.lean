/-
  THE CLOSED FACTS FOR A WALK OVER fmt.errorf's STOP in this dump (after the guide's CheckFmt.lean, turned to this program's numbers).
-/
import Derived.Test.Qxb6616985aFmtCards
import Derived.Stop.CallBack
import Derived.Stop.IfaceNil
import Derived.WalkKit
import Derived.WalkSpells
namespace Go.Proofs
open Go.Extern.Stop Go.Stop Go.Extern

theorem Tryf.call13 (args : Array Value) (w : World) : (callFunc 13 args).run Tryf.prog w = ((FmtStop.errorf #[9, 35] #[28] args).run Tryf.prog w).andThen fun v w' => .ok (.value v) w' :=
  run_callFunc_extern Tryf.func13 (by kernel_rfl) (by kernel_rfl) (by kernel_rfl) (by kernel_rfl) args w
theorem Tryf.guard (name : String) (w : World) : (FmtStop.guard name).run Tryf.prog w = .ok () w := by kernel_rfl
theorem Tryf.op3_100w (name : String) (x : Int) (w : World) : (FmtStop.operand name true 100 false (.iface 3 (.int .i64 x))).run Tryf.prog w = .ok ([5, 3, 0, 0, 0, 0, 0, 0, 0, 105, 110, 116], Go.Extern.Stop.digits 8 (x % 2 ^ 64).toNat) w := by kernel_rfl
theorem Tryf.ptr38 (w : World) : (FmtStop.ptrTo "errors.errorString").run Tryf.prog w = .ok 38 w := by kernel_rfl
theorem Tryf.elem38 (w : World) : (elemOf 38).run Tryf.prog w = .ok 40 w := by kernel_rfl
theorem Tryf.isError38' (w : World) : (FmtDoors.textMethod 38 "Error").run Tryf.prog w = .ok true w := by kernel_rfl
theorem Tryf.fmt0 : FmtStop.printed? ⟨#[116, 104, 101, 32, 74, 83, 79, 78, 32, 116, 101, 120, 116, 32, 110, 101, 115, 116, 115, 32, 109, 111, 114, 101, 32, 116, 104, 97, 110, 32, 37, 100, 32, 97, 114, 114, 97, 121, 115, 32, 97, 110, 100, 32, 111, 98, 106, 101, 99, 116, 115, 32, 100, 101, 101, 112, 44, 32, 97, 116, 32, 111, 102, 102, 115, 101, 116, 32, 37, 100]⟩ 2 = some [(0, 100, false), (1, 100, false)] := by kernel_rfl
theorem Tryf.fmt0r (w : World) : (FmtDoors.printed ⟨#[116, 104, 101, 32, 74, 83, 79, 78, 32, 116, 101, 120, 116, 32, 110, 101, 115, 116, 115, 32, 109, 111, 114, 101, 32, 116, 104, 97, 110, 32, 37, 100, 32, 97, 114, 114, 97, 121, 115, 32, 97, 110, 100, 32, 111, 98, 106, 101, 99, 116, 115, 32, 100, 101, 101, 112, 44, 32, 97, 116, 32, 111, 102, 102, 115, 101, 116, 32, 37, 100]⟩ 2).run Tryf.prog w = .ok [(0, 100, false), (1, 100, false)] w := by kernel_rfl
theorem Tryf.fmt1 : FmtStop.printed? ⟨#[116, 104, 101, 32, 74, 83, 79, 78, 32, 116, 101, 120, 116, 32, 110, 101, 115, 116, 115, 32, 109, 111, 114, 101, 32, 116, 104, 97, 110, 32, 37, 100, 32, 97, 114, 114, 97, 121, 115, 32, 97, 110, 100, 32, 111, 98, 106, 101, 99, 116, 115, 32, 100, 101, 101, 112, 44, 32, 97, 116, 32, 111, 102, 102, 115, 101, 116, 32, 37, 100]⟩ 0 = some [] := by kernel_rfl
theorem Tryf.fmt1r (w : World) : (FmtDoors.printed ⟨#[116, 104, 101, 32, 74, 83, 79, 78, 32, 116, 101, 120, 116, 32, 110, 101, 115, 116, 115, 32, 109, 111, 114, 101, 32, 116, 104, 97, 110, 32, 37, 100, 32, 97, 114, 114, 97, 121, 115, 32, 97, 110, 100, 32, 111, 98, 106, 101, 99, 116, 115, 32, 100, 101, 101, 112, 44, 32, 97, 116, 32, 111, 102, 102, 115, 101, 116, 32, 37, 100]⟩ 0).run Tryf.prog w = .ok [] w := by kernel_rfl
end Go.Proofs
namespace Go.Proofs.Qxb6616985aFmt
open Go.RowKit Go.Extern.Stop Go.Stop Go.Extern

attribute [local go_sem] Tryf.call13 Tryf.guard Tryf.op3_100w Tryf.ptr38 Tryf.elem38 Tryf.isError38' Tryf.fmt0 Tryf.fmt0r Tryf.fmt1 Tryf.fmt1r

set_option maxHeartbeats 400000 in
theorem tooDeep_any (F : Interp) (off : Int) (w : World) (hF : F.answers w.tape) :
    Calls Tryf.prog 11 #[.int .i64 off] w fun e w' => (∃ a, e = .returned (.iface 38 (.pointer (some a)))) ∧ Below w.heap.size w w' := by
  have hF' := answers_open hF
  go_enter Tryf.func11, Tryf.ntmps11
  go_wp2
  go_ret
  exact ⟨⟨_, rfl⟩, (((Below.refl _ w).alloc (Nat.le_refl _) _).alloc (by simp) _).drew⟩
end Go.Proofs.Qxb6616985aFmt
