/- Closed facts of this seat's program: its types, type assertions on interface values, tests against nil. No condition. -/
import Derived.Test.YtedbfoknfdiadaaGreatDoorCore
import Derived.Test.YtedbfoknfdiadaaGreatDoorProg
import Derived.WalkLawsBesides
import Derived.Outline
import Derived.WalkSpells
import Derived.Lib.Hide
import Derived.Deep.LoopGhost
import Derived.Deep.QuietTactic
import Derived.BigQuiet
import Derived.Deep.RegionHeld3
import Derived.StillTailTactics
import Derived.Deep.RegionWith
import Derived.Deep.DeepCutAuto
import Derived.Deep.DeepFit
set_option linter.unusedVariables false
set_option linter.unusedSimpArgs false
namespace Go.Proofs.YtedbfoknfdiadaaGreatDoor
open Go.RowKit
theorem uB : Tryz.prog.underlying 4 = some .bool := by kernel_rfl
theorem uI : Tryz.prog.underlying 3 = some (.int .i64) := by kernel_rfl
theorem uS : Tryz.prog.underlying 9 = some .string := by kernel_rfl
theorem uM : Tryz.prog.underlying 63 = some (.map 9 20) := by kernel_rfl
theorem uL : Tryz.prog.underlying 74 = some (.slice 20) := by kernel_rfl
theorem zA (w : World) : (zeroValue 20).run Tryz.prog w = .ok .nilIface w := by kernel_rfl
@[go_sem] theorem ta_b_b (v : Value) (w : World) : (Instr.typeAssert (.iface 4 v) 20 4 true).run Tryz.prog w = .ok (.tuple #[v, .bool true]) w := by kernel_rfl
@[go_sem] theorem tb_b_b (v : Value) (w : World) : (Instr.typeAssert (.iface 4 v) 20 4 false).run Tryz.prog w = .ok v w := by kernel_rfl
@[go_sem] theorem ta_b_i (v : Value) (w : World) : (Instr.typeAssert (.iface 4 v) 20 3 true).run Tryz.prog w = .ok (.tuple #[.int .i64 0, .bool false]) w := by kernel_rfl
@[go_sem] theorem ta_b_s (v : Value) (w : World) : (Instr.typeAssert (.iface 4 v) 20 9 true).run Tryz.prog w = .ok (.tuple #[.string ⟨#[]⟩, .bool false]) w := by kernel_rfl
@[go_sem] theorem ta_b_m (v : Value) (w : World) : (Instr.typeAssert (.iface 4 v) 20 63 true).run Tryz.prog w = .ok (.tuple #[.map none, .bool false]) w := by kernel_rfl
@[go_sem] theorem ta_b_l (v : Value) (w : World) : (Instr.typeAssert (.iface 4 v) 20 74 true).run Tryz.prog w = .ok (.tuple #[.slice none 0 0, .bool false]) w := by kernel_rfl
@[go_sem] theorem ta_i_b (v : Value) (w : World) : (Instr.typeAssert (.iface 3 v) 20 4 true).run Tryz.prog w = .ok (.tuple #[.bool false, .bool false]) w := by kernel_rfl
@[go_sem] theorem ta_i_i (v : Value) (w : World) : (Instr.typeAssert (.iface 3 v) 20 3 true).run Tryz.prog w = .ok (.tuple #[v, .bool true]) w := by kernel_rfl
@[go_sem] theorem tb_i_i (v : Value) (w : World) : (Instr.typeAssert (.iface 3 v) 20 3 false).run Tryz.prog w = .ok v w := by kernel_rfl
@[go_sem] theorem ta_i_s (v : Value) (w : World) : (Instr.typeAssert (.iface 3 v) 20 9 true).run Tryz.prog w = .ok (.tuple #[.string ⟨#[]⟩, .bool false]) w := by kernel_rfl
@[go_sem] theorem ta_i_m (v : Value) (w : World) : (Instr.typeAssert (.iface 3 v) 20 63 true).run Tryz.prog w = .ok (.tuple #[.map none, .bool false]) w := by kernel_rfl
@[go_sem] theorem ta_i_l (v : Value) (w : World) : (Instr.typeAssert (.iface 3 v) 20 74 true).run Tryz.prog w = .ok (.tuple #[.slice none 0 0, .bool false]) w := by kernel_rfl
@[go_sem] theorem ta_s_b (v : Value) (w : World) : (Instr.typeAssert (.iface 9 v) 20 4 true).run Tryz.prog w = .ok (.tuple #[.bool false, .bool false]) w := by kernel_rfl
@[go_sem] theorem ta_s_i (v : Value) (w : World) : (Instr.typeAssert (.iface 9 v) 20 3 true).run Tryz.prog w = .ok (.tuple #[.int .i64 0, .bool false]) w := by kernel_rfl
@[go_sem] theorem ta_s_s (v : Value) (w : World) : (Instr.typeAssert (.iface 9 v) 20 9 true).run Tryz.prog w = .ok (.tuple #[v, .bool true]) w := by kernel_rfl
@[go_sem] theorem tb_s_s (v : Value) (w : World) : (Instr.typeAssert (.iface 9 v) 20 9 false).run Tryz.prog w = .ok v w := by kernel_rfl
@[go_sem] theorem ta_s_m (v : Value) (w : World) : (Instr.typeAssert (.iface 9 v) 20 63 true).run Tryz.prog w = .ok (.tuple #[.map none, .bool false]) w := by kernel_rfl
@[go_sem] theorem ta_s_l (v : Value) (w : World) : (Instr.typeAssert (.iface 9 v) 20 74 true).run Tryz.prog w = .ok (.tuple #[.slice none 0 0, .bool false]) w := by kernel_rfl
@[go_sem] theorem ta_m_b (v : Value) (w : World) : (Instr.typeAssert (.iface 63 v) 20 4 true).run Tryz.prog w = .ok (.tuple #[.bool false, .bool false]) w := by kernel_rfl
@[go_sem] theorem ta_m_i (v : Value) (w : World) : (Instr.typeAssert (.iface 63 v) 20 3 true).run Tryz.prog w = .ok (.tuple #[.int .i64 0, .bool false]) w := by kernel_rfl
@[go_sem] theorem ta_m_s (v : Value) (w : World) : (Instr.typeAssert (.iface 63 v) 20 9 true).run Tryz.prog w = .ok (.tuple #[.string ⟨#[]⟩, .bool false]) w := by kernel_rfl
@[go_sem] theorem ta_m_m (v : Value) (w : World) : (Instr.typeAssert (.iface 63 v) 20 63 true).run Tryz.prog w = .ok (.tuple #[v, .bool true]) w := by kernel_rfl
@[go_sem] theorem tb_m_m (v : Value) (w : World) : (Instr.typeAssert (.iface 63 v) 20 63 false).run Tryz.prog w = .ok v w := by kernel_rfl
@[go_sem] theorem ta_m_l (v : Value) (w : World) : (Instr.typeAssert (.iface 63 v) 20 74 true).run Tryz.prog w = .ok (.tuple #[.slice none 0 0, .bool false]) w := by kernel_rfl
@[go_sem] theorem ta_l_b (v : Value) (w : World) : (Instr.typeAssert (.iface 74 v) 20 4 true).run Tryz.prog w = .ok (.tuple #[.bool false, .bool false]) w := by kernel_rfl
@[go_sem] theorem ta_l_i (v : Value) (w : World) : (Instr.typeAssert (.iface 74 v) 20 3 true).run Tryz.prog w = .ok (.tuple #[.int .i64 0, .bool false]) w := by kernel_rfl
@[go_sem] theorem ta_l_s (v : Value) (w : World) : (Instr.typeAssert (.iface 74 v) 20 9 true).run Tryz.prog w = .ok (.tuple #[.string ⟨#[]⟩, .bool false]) w := by kernel_rfl
@[go_sem] theorem ta_l_m (v : Value) (w : World) : (Instr.typeAssert (.iface 74 v) 20 63 true).run Tryz.prog w = .ok (.tuple #[.map none, .bool false]) w := by kernel_rfl
@[go_sem] theorem ta_l_l (v : Value) (w : World) : (Instr.typeAssert (.iface 74 v) 20 74 true).run Tryz.prog w = .ok (.tuple #[v, .bool true]) w := by kernel_rfl
@[go_sem] theorem tb_l_l (v : Value) (w : World) : (Instr.typeAssert (.iface 74 v) 20 74 false).run Tryz.prog w = .ok v w := by kernel_rfl
@[go_sem] theorem ta_nil_b (w : World) : (Instr.typeAssert .nilIface 20 4 true).run Tryz.prog w = .ok (.tuple #[.bool false, .bool false]) w := by kernel_rfl
@[go_sem] theorem eqn_b (v : Value) (w : World) : (binOp .eql 20 (.iface 4 v) .nilIface).run Tryz.prog w = .ok (.bool false) w := by kernel_rfl
@[go_sem] theorem nen_b (v : Value) (w : World) : (binOp .neq 20 (.iface 4 v) .nilIface).run Tryz.prog w = .ok (.bool true) w := by kernel_rfl
@[go_sem] theorem ta_nil_i (w : World) : (Instr.typeAssert .nilIface 20 3 true).run Tryz.prog w = .ok (.tuple #[.int .i64 0, .bool false]) w := by kernel_rfl
@[go_sem] theorem eqn_i (v : Value) (w : World) : (binOp .eql 20 (.iface 3 v) .nilIface).run Tryz.prog w = .ok (.bool false) w := by kernel_rfl
@[go_sem] theorem nen_i (v : Value) (w : World) : (binOp .neq 20 (.iface 3 v) .nilIface).run Tryz.prog w = .ok (.bool true) w := by kernel_rfl
@[go_sem] theorem ta_nil_s (w : World) : (Instr.typeAssert .nilIface 20 9 true).run Tryz.prog w = .ok (.tuple #[.string ⟨#[]⟩, .bool false]) w := by kernel_rfl
@[go_sem] theorem eqn_s (v : Value) (w : World) : (binOp .eql 20 (.iface 9 v) .nilIface).run Tryz.prog w = .ok (.bool false) w := by kernel_rfl
@[go_sem] theorem nen_s (v : Value) (w : World) : (binOp .neq 20 (.iface 9 v) .nilIface).run Tryz.prog w = .ok (.bool true) w := by kernel_rfl
@[go_sem] theorem ta_nil_m (w : World) : (Instr.typeAssert .nilIface 20 63 true).run Tryz.prog w = .ok (.tuple #[.map none, .bool false]) w := by kernel_rfl
@[go_sem] theorem eqn_m (v : Value) (w : World) : (binOp .eql 20 (.iface 63 v) .nilIface).run Tryz.prog w = .ok (.bool false) w := by kernel_rfl
@[go_sem] theorem nen_m (v : Value) (w : World) : (binOp .neq 20 (.iface 63 v) .nilIface).run Tryz.prog w = .ok (.bool true) w := by kernel_rfl
@[go_sem] theorem ta_nil_l (w : World) : (Instr.typeAssert .nilIface 20 74 true).run Tryz.prog w = .ok (.tuple #[.slice none 0 0, .bool false]) w := by kernel_rfl
@[go_sem] theorem eqn_l (v : Value) (w : World) : (binOp .eql 20 (.iface 74 v) .nilIface).run Tryz.prog w = .ok (.bool false) w := by kernel_rfl
@[go_sem] theorem nen_l (v : Value) (w : World) : (binOp .neq 20 (.iface 74 v) .nilIface).run Tryz.prog w = .ok (.bool true) w := by kernel_rfl
@[go_sem] theorem eqn_nil (w : World) : (binOp .eql 20 .nilIface .nilIface).run Tryz.prog w = .ok (.bool true) w := by kernel_rfl
@[go_sem] theorem nen_nil (w : World) : (binOp .neq 20 .nilIface .nilIface).run Tryz.prog w = .ok (.bool false) w := by kernel_rfl
end Go.Proofs.YtedbfoknfdiadaaGreatDoor
