/- THE CLOSED FACTS FOR A WALK OVER fmt's STOPPED FRONT (after the kit's own LabelFmt.lean, at this program's numbers), each by the kernel's evaluation; and maps.clone's entry. -/
import Derived.Test.YbulkcoroFmtRows
import Derived.Stop.CallBack
import Derived.Stop.IfaceNil
import GoSem.ClaimData
namespace Go.Proofs.YbulkcoroFmt
open Go.Extern.Stop Go.Stop Go.Extern

-- fmt.Sprintf: function 6: a plain stop
@[go_sem] theorem Ybaf.call6 (args : Array Value) (w : World) : (callFunc 6 args).run Ybaf.prog w = ((FmtStop.sprintf #[9, 63] #[9] args).run Ybaf.prog w).andThen fun v w' => .ok (.value v) w' :=
  run_callFunc_extern Ybaf.func6 (by kernel_rfl) (by kernel_rfl) (by kernel_rfl) (by kernel_rfl) args w

@[go_sem] theorem Ybaf.guard (name : String) (w : World) : (FmtStop.guard name).run Ybaf.prog w = .ok () w := by kernel_rfl

-- shard %d is not one of the shards 0 to %d: two operands
@[go_sem] theorem Ybaf.fmt0 : FmtStop.printed? ⟨#[115, 104, 97, 114, 100, 32, 37, 100, 32, 105, 115, 32, 110, 111, 116, 32, 111, 110, 101, 32, 111, 102, 32, 116, 104, 101, 32, 115, 104, 97, 114, 100, 115, 32, 48, 32, 116, 111, 32, 37, 100]⟩ 2 = some [(0, 100, false), (1, 100, false)] := by kernel_rfl
@[go_sem] theorem Ybaf.fmt0r (w : World) : (FmtDoors.printed ⟨#[115, 104, 97, 114, 100, 32, 37, 100, 32, 105, 115, 32, 110, 111, 116, 32, 111, 110, 101, 32, 111, 102, 32, 116, 104, 101, 32, 115, 104, 97, 114, 100, 115, 32, 48, 32, 116, 111, 32, 37, 100]⟩ 2).run Ybaf.prog w = .ok [(0, 100, false), (1, 100, false)] w := by kernel_rfl
-- gid %d is not a group: one operand
@[go_sem] theorem Ybaf.fmt1 : FmtStop.printed? ⟨#[103, 105, 100, 32, 37, 100, 32, 105, 115, 32, 110, 111, 116, 32, 97, 32, 103, 114, 111, 117, 112]⟩ 1 = some [(0, 100, false)] := by kernel_rfl
@[go_sem] theorem Ybaf.fmt1r (w : World) : (FmtDoors.printed ⟨#[103, 105, 100, 32, 37, 100, 32, 105, 115, 32, 110, 111, 116, 32, 97, 32, 103, 114, 111, 117, 112]⟩ 1).run Ybaf.prog w = .ok [(0, 100, false)] w := by kernel_rfl

def Ybaf.shape3 : List UInt8 := [5, 3, 0, 0, 0, 0, 0, 0, 0, 105, 110, 116]
def Ybaf.shape25 : List UInt8 := [9, 17, 0, 0, 0, 0, 0, 0, 0, 115, 104, 97, 114, 100, 98, 97, 108, 97, 110, 99, 101, 114, 46, 71, 73, 68]
@[go_sem] theorem Ybaf.op3_100 (name : String) (x : Int) (w : World) : (FmtStop.operand name false 100 false (.iface 3 (.int .i64 x))).run Ybaf.prog w = .ok (Ybaf.shape3, Go.Extern.Stop.digits 8 (x % 2 ^ 64).toNat) w := by kernel_rfl
@[go_sem] theorem Ybaf.op25_100 (name : String) (x : Int) (w : World) : (FmtStop.operand name false 100 false (.iface 25 (.int .u64 x))).run Ybaf.prog w = .ok (Ybaf.shape25, Go.Extern.Stop.digits 8 (x % 2 ^ 64).toNat) w := by kernel_rfl

-- maps.clone: function 10
theorem Ybaf.call10 (args : Array Value) (w : World) : (callFunc 10 args).run Ybaf.prog w = ((Go.Extern.MapsClone.clone args).run Ybaf.prog w).andThen fun v w' => .ok (.value v) w' :=
  run_callFunc_extern Ybaf.func10 (by kernel_rfl) (by kernel_rfl) (by kernel_rfl) (by kernel_rfl) args w
end Go.Proofs.YbulkcoroFmt
