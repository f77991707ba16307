import Derived.Test.Qxb6612559aLast
import Derived.BigQuiet
namespace Go.Proofs.Qxb6612559a
open Go.RowKit

theorem no32 (v : Value) (w : World) : (Instr.typeAssert (.iface 2 v) 20 32 true).run Try.prog w = .ok (.tuple #[.map none, .bool false]) w := by rfl
theorem no44 (v : Value) (w : World) : (Instr.typeAssert (.iface 2 v) 20 44 true).run Try.prog w = .ok (.tuple #[.slice none 0 0, .bool false]) w := by rfl
theorem yes32 (v : Value) (w : World) : (Instr.typeAssert (.iface 32 v) 20 32 true).run Try.prog w = .ok (.tuple #[v, .bool true]) w := by rfl
theorem yes36 (v : Value) (w : World) : (Instr.typeAssert (.iface 36 v) 20 36 true).run Try.prog w = .ok (.tuple #[v, .bool true]) w := by rfl
theorem yes2 (v : Value) (w : World) : (Instr.typeAssert (.iface 2 v) 20 2 true).run Try.prog w = .ok (.tuple #[v, .bool true]) w := by rfl

set_option maxHeartbeats 1000000 in
theorem form_int (c : Int) (w : World) : Calls Try.prog 9 #[.iface 2 (.int .i64 c)] w fun e w' => e = .returned (.iface 2 (.int .i64 c)) ∧ w' = w := by
  have e1 := no32
  have e2 := no44
  go_enter Try.func9, Try.ntmps9
  go_wp2
  go_ret
  exact ⟨rfl, rfl⟩

end Go.Proofs.Qxb6612559a
