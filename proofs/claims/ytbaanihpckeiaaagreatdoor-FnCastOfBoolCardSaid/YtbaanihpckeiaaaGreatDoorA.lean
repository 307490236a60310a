/- Facts of the program, each by the kernel's evaluation: what each type assertion says of nil, of a bool and of a string; no conditions. -/
import Derived.Test.YtbaanihpckeiaaaGreatDoorProg
import Derived.WalkKit
import Derived.WalkSpells
import Derived.WalkLawsBesides
import Derived.Handy
import Derived.BigQuiet
import Derived.Deep.QuietTactic
import Derived.KernelRfl

namespace Go.Proofs.YtbaanihpckeiaaaGreatDoor
open Go.RowKit
@[go_sem] theorem asN_3 (w : World) : (Instr.typeAssert .nilIface 20 3 true).run Tryz.prog w = .ok (.tuple #[.int .i64 0, .bool false]) w := by kernel_rfl
@[go_sem] theorem asB_3 (b : Bool) (w : World) : (Instr.typeAssert (.iface 4 (.bool b)) 20 3 true).run Tryz.prog w = .ok (.tuple #[.int .i64 0, .bool false]) w := by kernel_rfl
@[go_sem] theorem asS_3 (b : ByteArray) (w : World) : (Instr.typeAssert (.iface 9 (.string b)) 20 3 true).run Tryz.prog w = .ok (.tuple #[.int .i64 0, .bool false]) w := by kernel_rfl
@[go_sem] theorem asN_53 (w : World) : (Instr.typeAssert .nilIface 20 53 true).run Tryz.prog w = .ok (.tuple #[.int .i8 0, .bool false]) w := by kernel_rfl
@[go_sem] theorem asB_53 (b : Bool) (w : World) : (Instr.typeAssert (.iface 4 (.bool b)) 20 53 true).run Tryz.prog w = .ok (.tuple #[.int .i8 0, .bool false]) w := by kernel_rfl
@[go_sem] theorem asS_53 (b : ByteArray) (w : World) : (Instr.typeAssert (.iface 9 (.string b)) 20 53 true).run Tryz.prog w = .ok (.tuple #[.int .i8 0, .bool false]) w := by kernel_rfl
@[go_sem] theorem asN_56 (w : World) : (Instr.typeAssert .nilIface 20 56 true).run Tryz.prog w = .ok (.tuple #[.int .i16 0, .bool false]) w := by kernel_rfl
@[go_sem] theorem asB_56 (b : Bool) (w : World) : (Instr.typeAssert (.iface 4 (.bool b)) 20 56 true).run Tryz.prog w = .ok (.tuple #[.int .i16 0, .bool false]) w := by kernel_rfl
@[go_sem] theorem asS_56 (b : ByteArray) (w : World) : (Instr.typeAssert (.iface 9 (.string b)) 20 56 true).run Tryz.prog w = .ok (.tuple #[.int .i16 0, .bool false]) w := by kernel_rfl
@[go_sem] theorem asN_21 (w : World) : (Instr.typeAssert .nilIface 20 21 true).run Tryz.prog w = .ok (.tuple #[.int .i32 0, .bool false]) w := by kernel_rfl
@[go_sem] theorem asB_21 (b : Bool) (w : World) : (Instr.typeAssert (.iface 4 (.bool b)) 20 21 true).run Tryz.prog w = .ok (.tuple #[.int .i32 0, .bool false]) w := by kernel_rfl
@[go_sem] theorem asS_21 (b : ByteArray) (w : World) : (Instr.typeAssert (.iface 9 (.string b)) 20 21 true).run Tryz.prog w = .ok (.tuple #[.int .i32 0, .bool false]) w := by kernel_rfl
@[go_sem] theorem asN_2 (w : World) : (Instr.typeAssert .nilIface 20 2 true).run Tryz.prog w = .ok (.tuple #[.int .i64 0, .bool false]) w := by kernel_rfl
@[go_sem] theorem asB_2 (b : Bool) (w : World) : (Instr.typeAssert (.iface 4 (.bool b)) 20 2 true).run Tryz.prog w = .ok (.tuple #[.int .i64 0, .bool false]) w := by kernel_rfl
@[go_sem] theorem asS_2 (b : ByteArray) (w : World) : (Instr.typeAssert (.iface 9 (.string b)) 20 2 true).run Tryz.prog w = .ok (.tuple #[.int .i64 0, .bool false]) w := by kernel_rfl
@[go_sem] theorem asN_42 (w : World) : (Instr.typeAssert .nilIface 20 42 true).run Tryz.prog w = .ok (.tuple #[.int .u64 0, .bool false]) w := by kernel_rfl
@[go_sem] theorem asB_42 (b : Bool) (w : World) : (Instr.typeAssert (.iface 4 (.bool b)) 20 42 true).run Tryz.prog w = .ok (.tuple #[.int .u64 0, .bool false]) w := by kernel_rfl
@[go_sem] theorem asS_42 (b : ByteArray) (w : World) : (Instr.typeAssert (.iface 9 (.string b)) 20 42 true).run Tryz.prog w = .ok (.tuple #[.int .u64 0, .bool false]) w := by kernel_rfl
@[go_sem] theorem asN_5 (w : World) : (Instr.typeAssert .nilIface 20 5 true).run Tryz.prog w = .ok (.tuple #[.int .u8 0, .bool false]) w := by kernel_rfl
@[go_sem] theorem asB_5 (b : Bool) (w : World) : (Instr.typeAssert (.iface 4 (.bool b)) 20 5 true).run Tryz.prog w = .ok (.tuple #[.int .u8 0, .bool false]) w := by kernel_rfl
@[go_sem] theorem asS_5 (b : ByteArray) (w : World) : (Instr.typeAssert (.iface 9 (.string b)) 20 5 true).run Tryz.prog w = .ok (.tuple #[.int .u8 0, .bool false]) w := by kernel_rfl
@[go_sem] theorem asN_67 (w : World) : (Instr.typeAssert .nilIface 20 67 true).run Tryz.prog w = .ok (.tuple #[.int .u16 0, .bool false]) w := by kernel_rfl
@[go_sem] theorem asB_67 (b : Bool) (w : World) : (Instr.typeAssert (.iface 4 (.bool b)) 20 67 true).run Tryz.prog w = .ok (.tuple #[.int .u16 0, .bool false]) w := by kernel_rfl
@[go_sem] theorem asS_67 (b : ByteArray) (w : World) : (Instr.typeAssert (.iface 9 (.string b)) 20 67 true).run Tryz.prog w = .ok (.tuple #[.int .u16 0, .bool false]) w := by kernel_rfl
@[go_sem] theorem asN_70 (w : World) : (Instr.typeAssert .nilIface 20 70 true).run Tryz.prog w = .ok (.tuple #[.int .u32 0, .bool false]) w := by kernel_rfl
@[go_sem] theorem asB_70 (b : Bool) (w : World) : (Instr.typeAssert (.iface 4 (.bool b)) 20 70 true).run Tryz.prog w = .ok (.tuple #[.int .u32 0, .bool false]) w := by kernel_rfl
@[go_sem] theorem asS_70 (b : ByteArray) (w : World) : (Instr.typeAssert (.iface 9 (.string b)) 20 70 true).run Tryz.prog w = .ok (.tuple #[.int .u32 0, .bool false]) w := by kernel_rfl
@[go_sem] theorem asN_25 (w : World) : (Instr.typeAssert .nilIface 20 25 true).run Tryz.prog w = .ok (.tuple #[.int .u64 0, .bool false]) w := by kernel_rfl
@[go_sem] theorem asB_25 (b : Bool) (w : World) : (Instr.typeAssert (.iface 4 (.bool b)) 20 25 true).run Tryz.prog w = .ok (.tuple #[.int .u64 0, .bool false]) w := by kernel_rfl
@[go_sem] theorem asS_25 (b : ByteArray) (w : World) : (Instr.typeAssert (.iface 9 (.string b)) 20 25 true).run Tryz.prog w = .ok (.tuple #[.int .u64 0, .bool false]) w := by kernel_rfl
@[go_sem] theorem asN_79 (w : World) : (Instr.typeAssert .nilIface 20 79 true).run Tryz.prog w = .ok (.tuple #[.float .f32 0, .bool false]) w := by kernel_rfl
@[go_sem] theorem asB_79 (b : Bool) (w : World) : (Instr.typeAssert (.iface 4 (.bool b)) 20 79 true).run Tryz.prog w = .ok (.tuple #[.float .f32 0, .bool false]) w := by kernel_rfl
@[go_sem] theorem asS_79 (b : ByteArray) (w : World) : (Instr.typeAssert (.iface 9 (.string b)) 20 79 true).run Tryz.prog w = .ok (.tuple #[.float .f32 0, .bool false]) w := by kernel_rfl
@[go_sem] theorem asN_26 (w : World) : (Instr.typeAssert .nilIface 20 26 true).run Tryz.prog w = .ok (.tuple #[.float .f64 0, .bool false]) w := by kernel_rfl
@[go_sem] theorem asB_26 (b : Bool) (w : World) : (Instr.typeAssert (.iface 4 (.bool b)) 20 26 true).run Tryz.prog w = .ok (.tuple #[.float .f64 0, .bool false]) w := by kernel_rfl
@[go_sem] theorem asS_26 (b : ByteArray) (w : World) : (Instr.typeAssert (.iface 9 (.string b)) 20 26 true).run Tryz.prog w = .ok (.tuple #[.float .f64 0, .bool false]) w := by kernel_rfl
@[go_sem] theorem asN_4 (w : World) : (Instr.typeAssert .nilIface 20 4 true).run Tryz.prog w = .ok (.tuple #[.bool false, .bool false]) w := by kernel_rfl
@[go_sem] theorem asB_4 (b : Bool) (w : World) : (Instr.typeAssert (.iface 4 (.bool b)) 20 4 true).run Tryz.prog w = .ok (.tuple #[.bool b, .bool true]) w := by kernel_rfl
@[go_sem] theorem asS_4 (b : ByteArray) (w : World) : (Instr.typeAssert (.iface 9 (.string b)) 20 4 true).run Tryz.prog w = .ok (.tuple #[.bool false, .bool false]) w := by kernel_rfl
@[go_sem] theorem asN_9 (w : World) : (Instr.typeAssert .nilIface 20 9 true).run Tryz.prog w = .ok (.tuple #[.string ⟨#[]⟩, .bool false]) w := by kernel_rfl
@[go_sem] theorem asB_9 (b : Bool) (w : World) : (Instr.typeAssert (.iface 4 (.bool b)) 20 9 true).run Tryz.prog w = .ok (.tuple #[.string ⟨#[]⟩, .bool false]) w := by kernel_rfl
@[go_sem] theorem asS_9 (b : ByteArray) (w : World) : (Instr.typeAssert (.iface 9 (.string b)) 20 9 true).run Tryz.prog w = .ok (.tuple #[.string b, .bool true]) w := by kernel_rfl
@[go_sem] theorem asN_176 (w : World) : (Instr.typeAssert .nilIface 20 176 true).run Tryz.prog w = .ok (.tuple #[.int .i64 0, .bool false]) w := by kernel_rfl
@[go_sem] theorem asB_176 (b : Bool) (w : World) : (Instr.typeAssert (.iface 4 (.bool b)) 20 176 true).run Tryz.prog w = .ok (.tuple #[.int .i64 0, .bool false]) w := by kernel_rfl
@[go_sem] theorem asS_176 (b : ByteArray) (w : World) : (Instr.typeAssert (.iface 9 (.string b)) 20 176 true).run Tryz.prog w = .ok (.tuple #[.int .i64 0, .bool false]) w := by kernel_rfl
@[go_sem] theorem asN_177 (w : World) : (Instr.typeAssert .nilIface 20 177 true).run Tryz.prog w = .ok (.tuple #[.int .i64 0, .bool false]) w := by kernel_rfl
@[go_sem] theorem asB_177 (b : Bool) (w : World) : (Instr.typeAssert (.iface 4 (.bool b)) 20 177 true).run Tryz.prog w = .ok (.tuple #[.int .i64 0, .bool false]) w := by kernel_rfl
@[go_sem] theorem asS_177 (b : ByteArray) (w : World) : (Instr.typeAssert (.iface 9 (.string b)) 20 177 true).run Tryz.prog w = .ok (.tuple #[.int .i64 0, .bool false]) w := by kernel_rfl
@[go_sem] theorem asN_107 (w : World) : (Instr.typeAssert .nilIface 20 107 true).run Tryz.prog w = .ok (.tuple #[.int .i64 0, .bool false]) w := by kernel_rfl
@[go_sem] theorem asB_107 (b : Bool) (w : World) : (Instr.typeAssert (.iface 4 (.bool b)) 20 107 true).run Tryz.prog w = .ok (.tuple #[.int .i64 0, .bool false]) w := by kernel_rfl
@[go_sem] theorem asS_107 (b : ByteArray) (w : World) : (Instr.typeAssert (.iface 9 (.string b)) 20 107 true).run Tryz.prog w = .ok (.tuple #[.int .i64 0, .bool false]) w := by kernel_rfl
@[go_sem] theorem asN_103 (w : World) : (Instr.typeAssert .nilIface 20 103 true).run Tryz.prog w = .ok (.tuple #[.pointer none, .bool false]) w := by kernel_rfl
@[go_sem] theorem asB_103 (b : Bool) (w : World) : (Instr.typeAssert (.iface 4 (.bool b)) 20 103 true).run Tryz.prog w = .ok (.tuple #[.pointer none, .bool false]) w := by kernel_rfl
@[go_sem] theorem asS_103 (b : ByteArray) (w : World) : (Instr.typeAssert (.iface 9 (.string b)) 20 103 true).run Tryz.prog w = .ok (.tuple #[.pointer none, .bool false]) w := by kernel_rfl
@[go_sem] theorem asN_104 (w : World) : (Instr.typeAssert .nilIface 20 104 true).run Tryz.prog w = .ok (.tuple #[.pointer none, .bool false]) w := by kernel_rfl
@[go_sem] theorem asB_104 (b : Bool) (w : World) : (Instr.typeAssert (.iface 4 (.bool b)) 20 104 true).run Tryz.prog w = .ok (.tuple #[.pointer none, .bool false]) w := by kernel_rfl
@[go_sem] theorem asS_104 (b : ByteArray) (w : World) : (Instr.typeAssert (.iface 9 (.string b)) 20 104 true).run Tryz.prog w = .ok (.tuple #[.pointer none, .bool false]) w := by kernel_rfl
@[go_sem] theorem asN_80 (w : World) : (Instr.typeAssert .nilIface 20 80 true).run Tryz.prog w = .ok (.tuple #[.slice none 0 0, .bool false]) w := by kernel_rfl
@[go_sem] theorem mkB (b : Bool) (w : World) : (Instr.makeInterface 4 (.bool b)).run Tryz.prog w = .ok (.iface 4 (.bool b)) w := run_makeInterface w 4 _ (by kernel_rfl)
@[go_sem] theorem eqB (b : Bool) (w : World) : (binOp .eql 20 (.iface 4 (.bool b)) .nilIface).run Tryz.prog w = .ok (.bool false) w := by kernel_rfl
@[go_sem] theorem mkS (b : ByteArray) (w : World) : (Instr.makeInterface 9 (.string b)).run Tryz.prog w = .ok (.iface 9 (.string b)) w := run_makeInterface w 9 _ (by kernel_rfl)
@[go_sem] theorem eqS (b : ByteArray) (w : World) : (binOp .eql 20 (.iface 9 (.string b)) .nilIface).run Tryz.prog w = .ok (.bool false) w := by kernel_rfl
end Go.Proofs.YtbaanihpckeiaaaGreatDoor
