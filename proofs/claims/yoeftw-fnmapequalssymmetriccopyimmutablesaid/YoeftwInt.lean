import Derived.Test.YoeftwSmall
namespace Go.Proofs.Yoeftw
open Go.RowKit

/-- A pointer to an Int, as a 'tengo.Object'. -/
def objPtr (b : Nat) : Value := .iface 47 (.pointer (some ⟨b, 0, none⟩))

theorem as47_47 (v : Value) (w : World) : (Instr.typeAssert (.iface 47 v) 34 47 true).run Eftg.prog w = .ok (.tuple #[v, .bool true]) w := by kernel_rfl
theorem asNil_47 (w : World) : (Instr.typeAssert .nilIface 34 47 true).run Eftg.prog w = .ok (.tuple #[.pointer none, .bool false]) w := by kernel_rfl
attribute [local go_sem] as47_47 asNil_47

set_option maxRecDepth 100000 in
/-- '(*Int).Equals' of another Int. -/
theorem intEq_int (b c : Nat) (x y : Int) (w : World) (hb : w.cell? ⟨b, 0, none⟩ = some (.int .i64 x)) (hc : w.cell? ⟨c, 0, none⟩ = some (.int .i64 y)) :
    Calls Eftg.prog 58 #[.pointer (some ⟨b, 0, none⟩), .iface 47 (.pointer (some ⟨c, 0, none⟩))] w fun e w' => e = .returned (.bool (x == y)) ∧ ∃ n, w' = w.drewN n := by
  go_enter Eftg.func58, Eftg.ntmps58
  go_wp2
  go_quiet (fail)
  go_wp2
  go_ret
  exact ⟨rfl, _, rfl⟩

set_option maxRecDepth 100000 in
/-- '(*Int).Equals' of nil. -/
theorem intEq_nil (b : Nat) (w : World) :
    Calls Eftg.prog 58 #[.pointer (some ⟨b, 0, none⟩), .nilIface] w fun e w' => e = .returned (.bool false) ∧ w' = w := by
  go_enter Eftg.func58, Eftg.ntmps58
  go_wp2
  go_ret
  exact ⟨rfl, rfl⟩

set_option maxRecDepth 100000 in
/-- '(*Int).Copy'. -/
theorem intCopy (b : Nat) (x : Int) (w : World) (hb : w.cell? ⟨b, 0, none⟩ = some (.int .i64 x)) :
    Calls Eftg.prog 57 #[.pointer (some ⟨b, 0, none⟩)] w fun e w' => e = .returned (.iface 47 (.pointer (some ⟨w.heap.size, 0, none⟩))) ∧ w' = w.alloc (.cells #[.int .i64 x] 49) := by
  go_enter Eftg.func57, Eftg.ntmps57
  go_wp2
  go_ret
  exact ⟨rfl, rfl⟩

end Go.Proofs.Yoeftw
