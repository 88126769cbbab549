/- OUR OWN TEXT. 'jsonKind' (function 5) by its contract: what it answers at each dynamic type that the two laws hand it. -/
import Derived.Test.YbulkcoroRows
import Derived.WalkKit
namespace Go.Proofs.Ybulkcoro.Kind
open Go.RowKit

/-! ### the type switch's assertions: closed facts of the program's tables -/
theorem ta24 (n : Int) (w : World) : (Instr.typeAssert (.iface 24 (.int .i32 n)) 23 24 true).run Yba.prog w = .ok (.tuple #[.int .i32 n, .bool true]) w := by kernel_rfl
theorem ts24 (s : ByteArray) (w : World) : (Instr.typeAssert (.iface 9 (.string s)) 23 24 true).run Yba.prog w = .ok (.tuple #[.int .i32 0, .bool false]) w := by kernel_rfl
theorem ts9 (s : ByteArray) (w : World) : (Instr.typeAssert (.iface 9 (.string s)) 23 9 true).run Yba.prog w = .ok (.tuple #[.string s, .bool true]) w := by kernel_rfl
theorem tb24 (b : Bool) (w : World) : (Instr.typeAssert (.iface 4 (.bool b)) 23 24 true).run Yba.prog w = .ok (.tuple #[.int .i32 0, .bool false]) w := by kernel_rfl
theorem tb9 (b : Bool) (w : World) : (Instr.typeAssert (.iface 4 (.bool b)) 23 9 true).run Yba.prog w = .ok (.tuple #[.string ⟨#[]⟩, .bool false]) w := by kernel_rfl
theorem tb4 (b : Bool) (w : World) : (Instr.typeAssert (.iface 4 (.bool b)) 23 4 true).run Yba.prog w = .ok (.tuple #[.bool b, .bool true]) w := by kernel_rfl
theorem tf24 (x : Nat) (w : World) : (Instr.typeAssert (.iface 22 (.float .f64 x)) 23 24 true).run Yba.prog w = .ok (.tuple #[.int .i32 0, .bool false]) w := by kernel_rfl
theorem tf9 (x : Nat) (w : World) : (Instr.typeAssert (.iface 22 (.float .f64 x)) 23 9 true).run Yba.prog w = .ok (.tuple #[.string ⟨#[]⟩, .bool false]) w := by kernel_rfl
theorem tf4 (x : Nat) (w : World) : (Instr.typeAssert (.iface 22 (.float .f64 x)) 23 4 true).run Yba.prog w = .ok (.tuple #[.bool false, .bool false]) w := by kernel_rfl
theorem tj24 (s : ByteArray) (w : World) : (Instr.typeAssert (.iface 25 (.string s)) 23 24 true).run Yba.prog w = .ok (.tuple #[.int .i32 0, .bool false]) w := by kernel_rfl
theorem tj9 (s : ByteArray) (w : World) : (Instr.typeAssert (.iface 25 (.string s)) 23 9 true).run Yba.prog w = .ok (.tuple #[.string ⟨#[]⟩, .bool false]) w := by kernel_rfl
theorem tj4 (s : ByteArray) (w : World) : (Instr.typeAssert (.iface 25 (.string s)) 23 4 true).run Yba.prog w = .ok (.tuple #[.bool false, .bool false]) w := by kernel_rfl
theorem tz24 (s : ByteArray) (w : World) : (Instr.typeAssert (.iface 26 (.string s)) 23 24 true).run Yba.prog w = .ok (.tuple #[.int .i32 0, .bool false]) w := by kernel_rfl
theorem tz9 (s : ByteArray) (w : World) : (Instr.typeAssert (.iface 26 (.string s)) 23 9 true).run Yba.prog w = .ok (.tuple #[.string ⟨#[]⟩, .bool false]) w := by kernel_rfl
theorem tz4 (s : ByteArray) (w : World) : (Instr.typeAssert (.iface 26 (.string s)) 23 4 true).run Yba.prog w = .ok (.tuple #[.bool false, .bool false]) w := by kernel_rfl
theorem ti24 (n : Int) (w : World) : (Instr.typeAssert (.iface 2 (.int .i64 n)) 23 24 true).run Yba.prog w = .ok (.tuple #[.int .i32 0, .bool false]) w := by kernel_rfl
theorem ti9 (n : Int) (w : World) : (Instr.typeAssert (.iface 2 (.int .i64 n)) 23 9 true).run Yba.prog w = .ok (.tuple #[.string ⟨#[]⟩, .bool false]) w := by kernel_rfl
theorem ti4 (n : Int) (w : World) : (Instr.typeAssert (.iface 2 (.int .i64 n)) 23 4 true).run Yba.prog w = .ok (.tuple #[.bool false, .bool false]) w := by kernel_rfl
theorem tn24 (w : World) : (Instr.typeAssert .nilIface 23 24 true).run Yba.prog w = .ok (.tuple #[.int .i32 0, .bool false]) w := by kernel_rfl
theorem tn9 (w : World) : (Instr.typeAssert .nilIface 23 9 true).run Yba.prog w = .ok (.tuple #[.string ⟨#[]⟩, .bool false]) w := by kernel_rfl
theorem tn4 (w : World) : (Instr.typeAssert .nilIface 23 4 true).run Yba.prog w = .ok (.tuple #[.bool false, .bool false]) w := by kernel_rfl

/-! ### the contracts -/
theorem kind_delim (n : Int) (w : World) : Calls Yba.prog 5 #[.iface 24 (.int .i32 n)] w fun e w' => e = .returned (.string ⟨#[97, 114, 114, 97, 121]⟩) ∧ w' = w := by
  have h1 := ta24 n
  go_enter Yba.func5, Yba.ntmps5
  go_wp2
  go_ret
  exact ⟨rfl, rfl⟩
theorem kind_string (s : ByteArray) (w : World) : Calls Yba.prog 5 #[.iface 9 (.string s)] w fun e w' => e = .returned (.string ⟨#[115, 116, 114, 105, 110, 103]⟩) ∧ w' = w := by
  have h1 := ts24 s
  have h2 := ts9 s
  go_enter Yba.func5, Yba.ntmps5
  go_wp2
  go_ret
  exact ⟨rfl, rfl⟩
theorem kind_bool (b : Bool) (w : World) : Calls Yba.prog 5 #[.iface 4 (.bool b)] w fun e w' => e = .returned (.string ⟨#[98, 111, 111, 108]⟩) ∧ w' = w := by
  have h1 := tb24 b
  have h2 := tb9 b
  have h3 := tb4 b
  go_enter Yba.func5, Yba.ntmps5
  go_wp2
  go_ret
  exact ⟨rfl, rfl⟩
theorem kind_float (x : Nat) (w : World) : Calls Yba.prog 5 #[.iface 22 (.float .f64 x)] w fun e w' => e = .returned (.string ⟨#[110, 117, 109, 98, 101, 114]⟩) ∧ w' = w := by
  have h1 := tf24 x
  have h2 := tf9 x
  have h3 := tf4 x
  go_enter Yba.func5, Yba.ntmps5
  go_wp2
  go_ret
  exact ⟨rfl, rfl⟩
theorem kind_number (s : ByteArray) (w : World) : Calls Yba.prog 5 #[.iface 25 (.string s)] w fun e w' => e = .returned (.string ⟨#[110, 117, 109, 98, 101, 114]⟩) ∧ w' = w := by
  have h1 := tj24 s
  have h2 := tj9 s
  have h3 := tj4 s
  go_enter Yba.func5, Yba.ntmps5
  go_wp2
  go_ret
  exact ⟨rfl, rfl⟩
theorem kind_named (s : ByteArray) (w : World) : Calls Yba.prog 5 #[.iface 26 (.string s)] w fun e w' => e = .returned (.string ⟨#[110, 117, 109, 98, 101, 114]⟩) ∧ w' = w := by
  have h1 := tz24 s
  have h2 := tz9 s
  have h3 := tz4 s
  go_enter Yba.func5, Yba.ntmps5
  go_wp2
  go_ret
  exact ⟨rfl, rfl⟩
theorem kind_int64 (n : Int) (w : World) : Calls Yba.prog 5 #[.iface 2 (.int .i64 n)] w fun e w' => e = .returned (.string ⟨#[110, 117, 109, 98, 101, 114]⟩) ∧ w' = w := by
  have h1 := ti24 n
  have h2 := ti9 n
  have h3 := ti4 n
  go_enter Yba.func5, Yba.ntmps5
  go_wp2
  go_ret
  exact ⟨rfl, rfl⟩
theorem kind_nil (w : World) : Calls Yba.prog 5 #[.nilIface] w fun e w' => e = .returned (.string ⟨#[110, 117, 109, 98, 101, 114]⟩) ∧ w' = w := by
  have h1 := tn24
  have h2 := tn9
  have h3 := tn4
  go_enter Yba.func5, Yba.ntmps5
  go_wp2
  go_ret
  exact ⟨rfl, rfl⟩
end Go.Proofs.Ybulkcoro.Kind
