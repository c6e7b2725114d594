/- What each type assertion says of a value of each dynamic type that comes up. -/
import Derived.Test.YtbdciilkapgfjaaGreatDoorProg
import Derived.WalkKit
import Derived.Stop.Asserts
import Derived.KernelRfl
namespace Go.Proofs.YtbdciilkapgfjaaGreatDoor
-- What each assertion says of a value of each dynamic type: closed facts of this program, each by the kernel.
@[go_sem] theorem as_bool_int (v : Value) (w : World) : (Instr.typeAssert (.iface 4 v) 20 3 true).run Tryz.prog w = .ok (.tuple #[.int .i64 0, .bool false]) w := by kernel_rfl
@[go_sem] theorem as_bool_float (v : Value) (w : World) : (Instr.typeAssert (.iface 4 v) 20 39 true).run Tryz.prog w = .ok (.tuple #[.float .f64 0, .bool false]) w := by kernel_rfl
@[go_sem] theorem as_bool_bigp (v : Value) (w : World) : (Instr.typeAssert (.iface 4 v) 20 55 true).run Tryz.prog w = .ok (.tuple #[.pointer none, .bool false]) w := by kernel_rfl
@[go_sem] theorem as_bool_jnum (v : Value) (w : World) : (Instr.typeAssert (.iface 4 v) 20 56 true).run Tryz.prog w = .ok (.tuple #[.string ByteArray.empty, .bool false]) w := by kernel_rfl
@[go_sem] theorem as_bool_string (v : Value) (w : World) : (Instr.typeAssert (.iface 4 v) 20 9 true).run Tryz.prog w = .ok (.tuple #[.string ByteArray.empty, .bool false]) w := by kernel_rfl
@[go_sem] theorem as_bool_anys (v : Value) (w : World) : (Instr.typeAssert (.iface 4 v) 20 40 true).run Tryz.prog w = .ok (.tuple #[.slice none 0 0, .bool false]) w := by kernel_rfl
@[go_sem] theorem as_bool_map (v : Value) (w : World) : (Instr.typeAssert (.iface 4 v) 20 43 true).run Tryz.prog w = .ok (.tuple #[.map none, .bool false]) w := by kernel_rfl
@[go_sem] theorem as_bool_bool (v : Value) (w : World) : (Instr.typeAssert (.iface 4 v) 20 4 true).run Tryz.prog w = .ok (.tuple #[v, .bool true]) w := by kernel_rfl
@[go_sem] theorem as_bool_error (v : Value) (w : World) : (Instr.typeAssert (.iface 4 v) 20 47 true).run Tryz.prog w = .ok (.tuple #[.nilIface, .bool false]) w := run_typeAssert_lacksB Tryz.underlying47 (by kernel_rfl) (by kernel_rfl) v 20 w
@[go_sem] theorem as_int_int (v : Value) (w : World) : (Instr.typeAssert (.iface 3 v) 20 3 true).run Tryz.prog w = .ok (.tuple #[v, .bool true]) w := by kernel_rfl
@[go_sem] theorem as_int_float (v : Value) (w : World) : (Instr.typeAssert (.iface 3 v) 20 39 true).run Tryz.prog w = .ok (.tuple #[.float .f64 0, .bool false]) w := by kernel_rfl
@[go_sem] theorem as_int_bigp (v : Value) (w : World) : (Instr.typeAssert (.iface 3 v) 20 55 true).run Tryz.prog w = .ok (.tuple #[.pointer none, .bool false]) w := by kernel_rfl
@[go_sem] theorem as_int_jnum (v : Value) (w : World) : (Instr.typeAssert (.iface 3 v) 20 56 true).run Tryz.prog w = .ok (.tuple #[.string ByteArray.empty, .bool false]) w := by kernel_rfl
@[go_sem] theorem as_int_string (v : Value) (w : World) : (Instr.typeAssert (.iface 3 v) 20 9 true).run Tryz.prog w = .ok (.tuple #[.string ByteArray.empty, .bool false]) w := by kernel_rfl
@[go_sem] theorem as_int_anys (v : Value) (w : World) : (Instr.typeAssert (.iface 3 v) 20 40 true).run Tryz.prog w = .ok (.tuple #[.slice none 0 0, .bool false]) w := by kernel_rfl
@[go_sem] theorem as_int_map (v : Value) (w : World) : (Instr.typeAssert (.iface 3 v) 20 43 true).run Tryz.prog w = .ok (.tuple #[.map none, .bool false]) w := by kernel_rfl
@[go_sem] theorem as_int_bool (v : Value) (w : World) : (Instr.typeAssert (.iface 3 v) 20 4 true).run Tryz.prog w = .ok (.tuple #[.bool false, .bool false]) w := by kernel_rfl
@[go_sem] theorem as_int_error (v : Value) (w : World) : (Instr.typeAssert (.iface 3 v) 20 47 true).run Tryz.prog w = .ok (.tuple #[.nilIface, .bool false]) w := run_typeAssert_lacksB Tryz.underlying47 (by kernel_rfl) (by kernel_rfl) v 20 w
@[go_sem] theorem as_float_int (v : Value) (w : World) : (Instr.typeAssert (.iface 39 v) 20 3 true).run Tryz.prog w = .ok (.tuple #[.int .i64 0, .bool false]) w := by kernel_rfl
@[go_sem] theorem as_float_float (v : Value) (w : World) : (Instr.typeAssert (.iface 39 v) 20 39 true).run Tryz.prog w = .ok (.tuple #[v, .bool true]) w := by kernel_rfl
@[go_sem] theorem as_float_bigp (v : Value) (w : World) : (Instr.typeAssert (.iface 39 v) 20 55 true).run Tryz.prog w = .ok (.tuple #[.pointer none, .bool false]) w := by kernel_rfl
@[go_sem] theorem as_float_jnum (v : Value) (w : World) : (Instr.typeAssert (.iface 39 v) 20 56 true).run Tryz.prog w = .ok (.tuple #[.string ByteArray.empty, .bool false]) w := by kernel_rfl
@[go_sem] theorem as_float_string (v : Value) (w : World) : (Instr.typeAssert (.iface 39 v) 20 9 true).run Tryz.prog w = .ok (.tuple #[.string ByteArray.empty, .bool false]) w := by kernel_rfl
@[go_sem] theorem as_float_anys (v : Value) (w : World) : (Instr.typeAssert (.iface 39 v) 20 40 true).run Tryz.prog w = .ok (.tuple #[.slice none 0 0, .bool false]) w := by kernel_rfl
@[go_sem] theorem as_float_map (v : Value) (w : World) : (Instr.typeAssert (.iface 39 v) 20 43 true).run Tryz.prog w = .ok (.tuple #[.map none, .bool false]) w := by kernel_rfl
@[go_sem] theorem as_float_bool (v : Value) (w : World) : (Instr.typeAssert (.iface 39 v) 20 4 true).run Tryz.prog w = .ok (.tuple #[.bool false, .bool false]) w := by kernel_rfl
@[go_sem] theorem as_float_error (v : Value) (w : World) : (Instr.typeAssert (.iface 39 v) 20 47 true).run Tryz.prog w = .ok (.tuple #[.nilIface, .bool false]) w := run_typeAssert_lacksB Tryz.underlying47 (by kernel_rfl) (by kernel_rfl) v 20 w
@[go_sem] theorem as_string_int (v : Value) (w : World) : (Instr.typeAssert (.iface 9 v) 20 3 true).run Tryz.prog w = .ok (.tuple #[.int .i64 0, .bool false]) w := by kernel_rfl
@[go_sem] theorem as_string_float (v : Value) (w : World) : (Instr.typeAssert (.iface 9 v) 20 39 true).run Tryz.prog w = .ok (.tuple #[.float .f64 0, .bool false]) w := by kernel_rfl
@[go_sem] theorem as_string_bigp (v : Value) (w : World) : (Instr.typeAssert (.iface 9 v) 20 55 true).run Tryz.prog w = .ok (.tuple #[.pointer none, .bool false]) w := by kernel_rfl
@[go_sem] theorem as_string_jnum (v : Value) (w : World) : (Instr.typeAssert (.iface 9 v) 20 56 true).run Tryz.prog w = .ok (.tuple #[.string ByteArray.empty, .bool false]) w := by kernel_rfl
@[go_sem] theorem as_string_string (v : Value) (w : World) : (Instr.typeAssert (.iface 9 v) 20 9 true).run Tryz.prog w = .ok (.tuple #[v, .bool true]) w := by kernel_rfl
@[go_sem] theorem as_string_anys (v : Value) (w : World) : (Instr.typeAssert (.iface 9 v) 20 40 true).run Tryz.prog w = .ok (.tuple #[.slice none 0 0, .bool false]) w := by kernel_rfl
@[go_sem] theorem as_string_map (v : Value) (w : World) : (Instr.typeAssert (.iface 9 v) 20 43 true).run Tryz.prog w = .ok (.tuple #[.map none, .bool false]) w := by kernel_rfl
@[go_sem] theorem as_string_bool (v : Value) (w : World) : (Instr.typeAssert (.iface 9 v) 20 4 true).run Tryz.prog w = .ok (.tuple #[.bool false, .bool false]) w := by kernel_rfl
@[go_sem] theorem as_string_error (v : Value) (w : World) : (Instr.typeAssert (.iface 9 v) 20 47 true).run Tryz.prog w = .ok (.tuple #[.nilIface, .bool false]) w := run_typeAssert_lacksB Tryz.underlying47 (by kernel_rfl) (by kernel_rfl) v 20 w
@[go_sem] theorem as_anys_int (v : Value) (w : World) : (Instr.typeAssert (.iface 40 v) 20 3 true).run Tryz.prog w = .ok (.tuple #[.int .i64 0, .bool false]) w := by kernel_rfl
@[go_sem] theorem as_anys_float (v : Value) (w : World) : (Instr.typeAssert (.iface 40 v) 20 39 true).run Tryz.prog w = .ok (.tuple #[.float .f64 0, .bool false]) w := by kernel_rfl
@[go_sem] theorem as_anys_bigp (v : Value) (w : World) : (Instr.typeAssert (.iface 40 v) 20 55 true).run Tryz.prog w = .ok (.tuple #[.pointer none, .bool false]) w := by kernel_rfl
@[go_sem] theorem as_anys_jnum (v : Value) (w : World) : (Instr.typeAssert (.iface 40 v) 20 56 true).run Tryz.prog w = .ok (.tuple #[.string ByteArray.empty, .bool false]) w := by kernel_rfl
@[go_sem] theorem as_anys_string (v : Value) (w : World) : (Instr.typeAssert (.iface 40 v) 20 9 true).run Tryz.prog w = .ok (.tuple #[.string ByteArray.empty, .bool false]) w := by kernel_rfl
@[go_sem] theorem as_anys_anys (v : Value) (w : World) : (Instr.typeAssert (.iface 40 v) 20 40 true).run Tryz.prog w = .ok (.tuple #[v, .bool true]) w := by kernel_rfl
@[go_sem] theorem as_anys_map (v : Value) (w : World) : (Instr.typeAssert (.iface 40 v) 20 43 true).run Tryz.prog w = .ok (.tuple #[.map none, .bool false]) w := by kernel_rfl
@[go_sem] theorem as_anys_bool (v : Value) (w : World) : (Instr.typeAssert (.iface 40 v) 20 4 true).run Tryz.prog w = .ok (.tuple #[.bool false, .bool false]) w := by kernel_rfl
@[go_sem] theorem as_anys_error (v : Value) (w : World) : (Instr.typeAssert (.iface 40 v) 20 47 true).run Tryz.prog w = .ok (.tuple #[.nilIface, .bool false]) w := run_typeAssert_lacksB Tryz.underlying47 (by kernel_rfl) (by kernel_rfl) v 20 w
@[go_sem] theorem as_map_int (v : Value) (w : World) : (Instr.typeAssert (.iface 43 v) 20 3 true).run Tryz.prog w = .ok (.tuple #[.int .i64 0, .bool false]) w := by kernel_rfl
@[go_sem] theorem as_map_float (v : Value) (w : World) : (Instr.typeAssert (.iface 43 v) 20 39 true).run Tryz.prog w = .ok (.tuple #[.float .f64 0, .bool false]) w := by kernel_rfl
@[go_sem] theorem as_map_bigp (v : Value) (w : World) : (Instr.typeAssert (.iface 43 v) 20 55 true).run Tryz.prog w = .ok (.tuple #[.pointer none, .bool false]) w := by kernel_rfl
@[go_sem] theorem as_map_jnum (v : Value) (w : World) : (Instr.typeAssert (.iface 43 v) 20 56 true).run Tryz.prog w = .ok (.tuple #[.string ByteArray.empty, .bool false]) w := by kernel_rfl
@[go_sem] theorem as_map_string (v : Value) (w : World) : (Instr.typeAssert (.iface 43 v) 20 9 true).run Tryz.prog w = .ok (.tuple #[.string ByteArray.empty, .bool false]) w := by kernel_rfl
@[go_sem] theorem as_map_anys (v : Value) (w : World) : (Instr.typeAssert (.iface 43 v) 20 40 true).run Tryz.prog w = .ok (.tuple #[.slice none 0 0, .bool false]) w := by kernel_rfl
@[go_sem] theorem as_map_map (v : Value) (w : World) : (Instr.typeAssert (.iface 43 v) 20 43 true).run Tryz.prog w = .ok (.tuple #[v, .bool true]) w := by kernel_rfl
@[go_sem] theorem as_map_bool (v : Value) (w : World) : (Instr.typeAssert (.iface 43 v) 20 4 true).run Tryz.prog w = .ok (.tuple #[.bool false, .bool false]) w := by kernel_rfl
@[go_sem] theorem as_map_error (v : Value) (w : World) : (Instr.typeAssert (.iface 43 v) 20 47 true).run Tryz.prog w = .ok (.tuple #[.nilIface, .bool false]) w := run_typeAssert_lacksB Tryz.underlying47 (by kernel_rfl) (by kernel_rfl) v 20 w
@[go_sem] theorem as_nil_int (w : World) : (Instr.typeAssert .nilIface 20 3 true).run Tryz.prog w = .ok (.tuple #[.int .i64 0, .bool false]) w := by kernel_rfl
@[go_sem] theorem as_nil_float (w : World) : (Instr.typeAssert .nilIface 20 39 true).run Tryz.prog w = .ok (.tuple #[.float .f64 0, .bool false]) w := by kernel_rfl
@[go_sem] theorem as_nil_bigp (w : World) : (Instr.typeAssert .nilIface 20 55 true).run Tryz.prog w = .ok (.tuple #[.pointer none, .bool false]) w := by kernel_rfl
@[go_sem] theorem as_nil_jnum (w : World) : (Instr.typeAssert .nilIface 20 56 true).run Tryz.prog w = .ok (.tuple #[.string ByteArray.empty, .bool false]) w := by kernel_rfl
@[go_sem] theorem as_nil_string (w : World) : (Instr.typeAssert .nilIface 20 9 true).run Tryz.prog w = .ok (.tuple #[.string ByteArray.empty, .bool false]) w := by kernel_rfl
@[go_sem] theorem as_nil_anys (w : World) : (Instr.typeAssert .nilIface 20 40 true).run Tryz.prog w = .ok (.tuple #[.slice none 0 0, .bool false]) w := by kernel_rfl
@[go_sem] theorem as_nil_map (w : World) : (Instr.typeAssert .nilIface 20 43 true).run Tryz.prog w = .ok (.tuple #[.map none, .bool false]) w := by kernel_rfl
@[go_sem] theorem as_nil_bool (w : World) : (Instr.typeAssert .nilIface 20 4 true).run Tryz.prog w = .ok (.tuple #[.bool false, .bool false]) w := by kernel_rfl
@[go_sem] theorem as_nil_error (w : World) : (Instr.typeAssert .nilIface 20 47 true).run Tryz.prog w = .ok (.tuple #[.nilIface, .bool false]) w := by kernel_rfl
end Go.Proofs.YtbdciilkapgfjaaGreatDoor
