/-
  THE CLOSED FACTS FOR THE WALK OVER fmt's STOPPED FRONT (after the guide's generated CheckFmt.lean, at this dump's numbers); Notify.Append on its road of the error.
-/
import Derived.Test.YbulkhmiFmtAppend
import Derived.Stop.CallBack
import Derived.Stop.IfaceNil
import GoSem.ClaimData
namespace Go.Proofs.YbulkhmiFmt
open Go.RowKit Go.Extern.Stop Go.Stop Go.Extern
set_option linter.unusedVariables false

theorem call15 (args : Array Value) (w : World) : (callFunc 15 args).run Ybaf.prog w = ((FmtStop.errorf #[9, 49] #[32] args).run Ybaf.prog w).andThen fun v w' => .ok (.value v) w' :=
  run_callFunc_extern Ybaf.func15 (by kernel_rfl) (by kernel_rfl) (by kernel_rfl) (by kernel_rfl) args w
theorem guardF (name : String) (w : World) : (FmtStop.guard name).run Ybaf.prog w = .ok () w := by kernel_rfl
theorem fmt0 : FmtStop.printed? ⟨#[105, 107, 101, 118, 49, 58, 32, 110, 111, 116, 105, 102, 105, 99, 97, 116, 105, 111, 110, 32, 83, 80, 73, 32, 111, 102, 32, 37, 100, 32, 98, 121, 116, 101, 115, 32, 101, 120, 99, 101, 101, 100, 115, 32, 116, 104, 101, 32, 37, 100, 32, 105, 116, 115, 32, 115, 105, 122, 101, 32, 102, 105, 101, 108, 100, 32, 115, 116, 97, 116, 101, 115]⟩ 2 = some [(0, 100, false), (1, 100, false)] := by kernel_rfl
theorem fmt0r (w : World) : (FmtDoors.printed ⟨#[105, 107, 101, 118, 49, 58, 32, 110, 111, 116, 105, 102, 105, 99, 97, 116, 105, 111, 110, 32, 83, 80, 73, 32, 111, 102, 32, 37, 100, 32, 98, 121, 116, 101, 115, 32, 101, 120, 99, 101, 101, 100, 115, 32, 116, 104, 101, 32, 37, 100, 32, 105, 116, 115, 32, 115, 105, 122, 101, 32, 102, 105, 101, 108, 100, 32, 115, 116, 97, 116, 101, 115]⟩ 2).run Ybaf.prog w = .ok [(0, 100, false), (1, 100, false)] w := by kernel_rfl
def shape3 : List UInt8 := [5, 3, 0, 0, 0, 0, 0, 0, 0, 105, 110, 116]
theorem op3 (name : String) (x : Int) (w : World) : (FmtStop.operand name false 100 false (.iface 3 (.int .i64 x))).run Ybaf.prog w = .ok (shape3, Go.Extern.Stop.digits 8 (x % 2 ^ 64).toNat) w := by kernel_rfl
theorem op3w (name : String) (x : Int) (w : World) : (FmtStop.operand name true 100 false (.iface 3 (.int .i64 x))).run Ybaf.prog w = .ok (shape3, Go.Extern.Stop.digits 8 (x % 2 ^ 64).toNat) w := by kernel_rfl
theorem ptr52 (w : World) : (FmtStop.ptrTo "errors.errorString").run Ybaf.prog w = .ok 52 w := by kernel_rfl
theorem elem52 (w : World) : (elemOf 52).run Ybaf.prog w = .ok 54 w := by kernel_rfl
theorem isError52 (w : World) : (FmtDoors.textMethod 52 "Error").run Ybaf.prog w = .ok true w := by kernel_rfl

attribute [local go_sem] call15 guardF fmt0 fmt0r op3 op3w ptr52 elem52 isError52

set_option maxHeartbeats 1000000 in
theorem append_err (F : Interp) (ao : Option Addr) (n cap : Nat) (doi proto typ : Int) (sa da : Option Addr) (ls cs ld cd : Nat) (w : World) (hF : F.answers w.tape) (hls : 255 < ls) (hls2 : ls ≤ 5000) :
    Calls Ybaf.prog 7 #[.agg #[.int .u32 doi, .int .u8 proto, .slice sa ls cs, .int .u16 typ, .slice da ld cd], .slice ao n cap] w fun e w' =>
      (∃ a, e = .returned (.tuple #[.slice ao n cap, .iface 52 (.pointer a)])) ∧ Below w.heap.size w w' := by
  have hF' := answers_open hF
  go_enter Ybaf.func7, Ybaf.ntmps7
  go_wp2
  go_ret2
  exact ⟨⟨some ⟨w.heap.size + 1 + 1, 0, none⟩, rfl⟩, ((((Below.refl _ w).alloc (Nat.le_refl _) _).alloc (by simp) _).alloc (by simp; omega) _).drew⟩
end Go.Proofs.YbulkhmiFmt
