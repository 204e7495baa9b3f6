/-
  TYPE ASSERTIONS on the values of the program: what each gives, by the dynamic type.
-/
import Derived.Test.YtnlndpgbhmkanaaGreatDoorRows
import Derived.WalkKit
import Derived.KernelRfl
import Derived.Stop.Asserts
namespace Go.Proofs.YtnlndpgbhmkanaaGreatDoor.Ta
@[go_sem] theorem ta_bool_bool (v : Value) (w : World) : (Instr.typeAssert (.iface 4 v) 20 4 true).run Tryz.prog w = .ok (.tuple #[v, .bool true]) w := by kernel_rfl
@[go_sem] theorem ta_bool_int (v : Value) (w : World) : (Instr.typeAssert (.iface 4 v) 20 3 true).run Tryz.prog w = .ok (.tuple #[.int .i64 0, .bool false]) w := by kernel_rfl
@[go_sem] theorem ta_bool_float (v : Value) (w : World) : (Instr.typeAssert (.iface 4 v) 20 65 true).run Tryz.prog w = .ok (.tuple #[.float .f64 0, .bool false]) w := by kernel_rfl
@[go_sem] theorem ta_bool_string (v : Value) (w : World) : (Instr.typeAssert (.iface 4 v) 20 9 true).run Tryz.prog w = .ok (.tuple #[.string ⟨#[]⟩, .bool false]) w := by kernel_rfl
@[go_sem] theorem ta_bool_list (v : Value) (w : World) : (Instr.typeAssert (.iface 4 v) 20 60 true).run Tryz.prog w = .ok (.tuple #[.slice none 0 0, .bool false]) w := by kernel_rfl
@[go_sem] theorem ta_bool_map (v : Value) (w : World) : (Instr.typeAssert (.iface 4 v) 20 106 true).run Tryz.prog w = .ok (.tuple #[.map none, .bool false]) w := by kernel_rfl
@[go_sem] theorem ta_bool_big (v : Value) (w : World) : (Instr.typeAssert (.iface 4 v) 20 158 true).run Tryz.prog w = .ok (.tuple #[.pointer none, .bool false]) w := by kernel_rfl
@[go_sem] theorem ta_bool_num (v : Value) (w : World) : (Instr.typeAssert (.iface 4 v) 20 160 true).run Tryz.prog w = .ok (.tuple #[.string ⟨#[]⟩, .bool false]) w := by kernel_rfl
theorem lacks_bool (v : Value) (w : World) : (Instr.typeAssert (.iface 4 v) 20 75 true).run Tryz.prog w = .ok (.tuple #[.nilIface, .bool false]) w := run_typeAssert_lacksB Tryz.underlying75 (by kernel_rfl) (by kernel_rfl) v 20 w
attribute [go_sem] lacks_bool
@[go_sem] theorem ta_int_bool (v : Value) (w : World) : (Instr.typeAssert (.iface 3 v) 20 4 true).run Tryz.prog w = .ok (.tuple #[.bool false, .bool false]) w := by kernel_rfl
@[go_sem] theorem ta_int_int (v : Value) (w : World) : (Instr.typeAssert (.iface 3 v) 20 3 true).run Tryz.prog w = .ok (.tuple #[v, .bool true]) w := by kernel_rfl
@[go_sem] theorem ta_int_float (v : Value) (w : World) : (Instr.typeAssert (.iface 3 v) 20 65 true).run Tryz.prog w = .ok (.tuple #[.float .f64 0, .bool false]) w := by kernel_rfl
@[go_sem] theorem ta_int_string (v : Value) (w : World) : (Instr.typeAssert (.iface 3 v) 20 9 true).run Tryz.prog w = .ok (.tuple #[.string ⟨#[]⟩, .bool false]) w := by kernel_rfl
@[go_sem] theorem ta_int_list (v : Value) (w : World) : (Instr.typeAssert (.iface 3 v) 20 60 true).run Tryz.prog w = .ok (.tuple #[.slice none 0 0, .bool false]) w := by kernel_rfl
@[go_sem] theorem ta_int_map (v : Value) (w : World) : (Instr.typeAssert (.iface 3 v) 20 106 true).run Tryz.prog w = .ok (.tuple #[.map none, .bool false]) w := by kernel_rfl
@[go_sem] theorem ta_int_big (v : Value) (w : World) : (Instr.typeAssert (.iface 3 v) 20 158 true).run Tryz.prog w = .ok (.tuple #[.pointer none, .bool false]) w := by kernel_rfl
@[go_sem] theorem ta_int_num (v : Value) (w : World) : (Instr.typeAssert (.iface 3 v) 20 160 true).run Tryz.prog w = .ok (.tuple #[.string ⟨#[]⟩, .bool false]) w := by kernel_rfl
theorem lacks_int (v : Value) (w : World) : (Instr.typeAssert (.iface 3 v) 20 75 true).run Tryz.prog w = .ok (.tuple #[.nilIface, .bool false]) w := run_typeAssert_lacksB Tryz.underlying75 (by kernel_rfl) (by kernel_rfl) v 20 w
attribute [go_sem] lacks_int
@[go_sem] theorem ta_float_bool (v : Value) (w : World) : (Instr.typeAssert (.iface 65 v) 20 4 true).run Tryz.prog w = .ok (.tuple #[.bool false, .bool false]) w := by kernel_rfl
@[go_sem] theorem ta_float_int (v : Value) (w : World) : (Instr.typeAssert (.iface 65 v) 20 3 true).run Tryz.prog w = .ok (.tuple #[.int .i64 0, .bool false]) w := by kernel_rfl
@[go_sem] theorem ta_float_float (v : Value) (w : World) : (Instr.typeAssert (.iface 65 v) 20 65 true).run Tryz.prog w = .ok (.tuple #[v, .bool true]) w := by kernel_rfl
@[go_sem] theorem ta_float_string (v : Value) (w : World) : (Instr.typeAssert (.iface 65 v) 20 9 true).run Tryz.prog w = .ok (.tuple #[.string ⟨#[]⟩, .bool false]) w := by kernel_rfl
@[go_sem] theorem ta_float_list (v : Value) (w : World) : (Instr.typeAssert (.iface 65 v) 20 60 true).run Tryz.prog w = .ok (.tuple #[.slice none 0 0, .bool false]) w := by kernel_rfl
@[go_sem] theorem ta_float_map (v : Value) (w : World) : (Instr.typeAssert (.iface 65 v) 20 106 true).run Tryz.prog w = .ok (.tuple #[.map none, .bool false]) w := by kernel_rfl
@[go_sem] theorem ta_float_big (v : Value) (w : World) : (Instr.typeAssert (.iface 65 v) 20 158 true).run Tryz.prog w = .ok (.tuple #[.pointer none, .bool false]) w := by kernel_rfl
@[go_sem] theorem ta_float_num (v : Value) (w : World) : (Instr.typeAssert (.iface 65 v) 20 160 true).run Tryz.prog w = .ok (.tuple #[.string ⟨#[]⟩, .bool false]) w := by kernel_rfl
theorem lacks_float (v : Value) (w : World) : (Instr.typeAssert (.iface 65 v) 20 75 true).run Tryz.prog w = .ok (.tuple #[.nilIface, .bool false]) w := run_typeAssert_lacksB Tryz.underlying75 (by kernel_rfl) (by kernel_rfl) v 20 w
attribute [go_sem] lacks_float
@[go_sem] theorem ta_string_bool (v : Value) (w : World) : (Instr.typeAssert (.iface 9 v) 20 4 true).run Tryz.prog w = .ok (.tuple #[.bool false, .bool false]) w := by kernel_rfl
@[go_sem] theorem ta_string_int (v : Value) (w : World) : (Instr.typeAssert (.iface 9 v) 20 3 true).run Tryz.prog w = .ok (.tuple #[.int .i64 0, .bool false]) w := by kernel_rfl
@[go_sem] theorem ta_string_float (v : Value) (w : World) : (Instr.typeAssert (.iface 9 v) 20 65 true).run Tryz.prog w = .ok (.tuple #[.float .f64 0, .bool false]) w := by kernel_rfl
@[go_sem] theorem ta_string_string (v : Value) (w : World) : (Instr.typeAssert (.iface 9 v) 20 9 true).run Tryz.prog w = .ok (.tuple #[v, .bool true]) w := by kernel_rfl
@[go_sem] theorem ta_string_list (v : Value) (w : World) : (Instr.typeAssert (.iface 9 v) 20 60 true).run Tryz.prog w = .ok (.tuple #[.slice none 0 0, .bool false]) w := by kernel_rfl
@[go_sem] theorem ta_string_map (v : Value) (w : World) : (Instr.typeAssert (.iface 9 v) 20 106 true).run Tryz.prog w = .ok (.tuple #[.map none, .bool false]) w := by kernel_rfl
@[go_sem] theorem ta_string_big (v : Value) (w : World) : (Instr.typeAssert (.iface 9 v) 20 158 true).run Tryz.prog w = .ok (.tuple #[.pointer none, .bool false]) w := by kernel_rfl
@[go_sem] theorem ta_string_num (v : Value) (w : World) : (Instr.typeAssert (.iface 9 v) 20 160 true).run Tryz.prog w = .ok (.tuple #[.string ⟨#[]⟩, .bool false]) w := by kernel_rfl
theorem lacks_string (v : Value) (w : World) : (Instr.typeAssert (.iface 9 v) 20 75 true).run Tryz.prog w = .ok (.tuple #[.nilIface, .bool false]) w := run_typeAssert_lacksB Tryz.underlying75 (by kernel_rfl) (by kernel_rfl) v 20 w
attribute [go_sem] lacks_string
@[go_sem] theorem ta_list_bool (v : Value) (w : World) : (Instr.typeAssert (.iface 60 v) 20 4 true).run Tryz.prog w = .ok (.tuple #[.bool false, .bool false]) w := by kernel_rfl
@[go_sem] theorem ta_list_int (v : Value) (w : World) : (Instr.typeAssert (.iface 60 v) 20 3 true).run Tryz.prog w = .ok (.tuple #[.int .i64 0, .bool false]) w := by kernel_rfl
@[go_sem] theorem ta_list_float (v : Value) (w : World) : (Instr.typeAssert (.iface 60 v) 20 65 true).run Tryz.prog w = .ok (.tuple #[.float .f64 0, .bool false]) w := by kernel_rfl
@[go_sem] theorem ta_list_string (v : Value) (w : World) : (Instr.typeAssert (.iface 60 v) 20 9 true).run Tryz.prog w = .ok (.tuple #[.string ⟨#[]⟩, .bool false]) w := by kernel_rfl
@[go_sem] theorem ta_list_list (v : Value) (w : World) : (Instr.typeAssert (.iface 60 v) 20 60 true).run Tryz.prog w = .ok (.tuple #[v, .bool true]) w := by kernel_rfl
@[go_sem] theorem ta_list_map (v : Value) (w : World) : (Instr.typeAssert (.iface 60 v) 20 106 true).run Tryz.prog w = .ok (.tuple #[.map none, .bool false]) w := by kernel_rfl
@[go_sem] theorem ta_list_big (v : Value) (w : World) : (Instr.typeAssert (.iface 60 v) 20 158 true).run Tryz.prog w = .ok (.tuple #[.pointer none, .bool false]) w := by kernel_rfl
@[go_sem] theorem ta_list_num (v : Value) (w : World) : (Instr.typeAssert (.iface 60 v) 20 160 true).run Tryz.prog w = .ok (.tuple #[.string ⟨#[]⟩, .bool false]) w := by kernel_rfl
theorem lacks_list (v : Value) (w : World) : (Instr.typeAssert (.iface 60 v) 20 75 true).run Tryz.prog w = .ok (.tuple #[.nilIface, .bool false]) w := run_typeAssert_lacksB Tryz.underlying75 (by kernel_rfl) (by kernel_rfl) v 20 w
attribute [go_sem] lacks_list
@[go_sem] theorem ta_map_bool (v : Value) (w : World) : (Instr.typeAssert (.iface 106 v) 20 4 true).run Tryz.prog w = .ok (.tuple #[.bool false, .bool false]) w := by kernel_rfl
@[go_sem] theorem ta_map_int (v : Value) (w : World) : (Instr.typeAssert (.iface 106 v) 20 3 true).run Tryz.prog w = .ok (.tuple #[.int .i64 0, .bool false]) w := by kernel_rfl
@[go_sem] theorem ta_map_float (v : Value) (w : World) : (Instr.typeAssert (.iface 106 v) 20 65 true).run Tryz.prog w = .ok (.tuple #[.float .f64 0, .bool false]) w := by kernel_rfl
@[go_sem] theorem ta_map_string (v : Value) (w : World) : (Instr.typeAssert (.iface 106 v) 20 9 true).run Tryz.prog w = .ok (.tuple #[.string ⟨#[]⟩, .bool false]) w := by kernel_rfl
@[go_sem] theorem ta_map_list (v : Value) (w : World) : (Instr.typeAssert (.iface 106 v) 20 60 true).run Tryz.prog w = .ok (.tuple #[.slice none 0 0, .bool false]) w := by kernel_rfl
@[go_sem] theorem ta_map_map (v : Value) (w : World) : (Instr.typeAssert (.iface 106 v) 20 106 true).run Tryz.prog w = .ok (.tuple #[v, .bool true]) w := by kernel_rfl
@[go_sem] theorem ta_map_big (v : Value) (w : World) : (Instr.typeAssert (.iface 106 v) 20 158 true).run Tryz.prog w = .ok (.tuple #[.pointer none, .bool false]) w := by kernel_rfl
@[go_sem] theorem ta_map_num (v : Value) (w : World) : (Instr.typeAssert (.iface 106 v) 20 160 true).run Tryz.prog w = .ok (.tuple #[.string ⟨#[]⟩, .bool false]) w := by kernel_rfl
theorem lacks_map (v : Value) (w : World) : (Instr.typeAssert (.iface 106 v) 20 75 true).run Tryz.prog w = .ok (.tuple #[.nilIface, .bool false]) w := run_typeAssert_lacksB Tryz.underlying75 (by kernel_rfl) (by kernel_rfl) v 20 w
attribute [go_sem] lacks_map
@[go_sem] theorem ta_nil_bool (w : World) : (Instr.typeAssert .nilIface 20 4 true).run Tryz.prog w = .ok (.tuple #[.bool false, .bool false]) w := by kernel_rfl
@[go_sem] theorem ta_nil_int (w : World) : (Instr.typeAssert .nilIface 20 3 true).run Tryz.prog w = .ok (.tuple #[.int .i64 0, .bool false]) w := by kernel_rfl
@[go_sem] theorem ta_nil_float (w : World) : (Instr.typeAssert .nilIface 20 65 true).run Tryz.prog w = .ok (.tuple #[.float .f64 0, .bool false]) w := by kernel_rfl
@[go_sem] theorem ta_nil_string (w : World) : (Instr.typeAssert .nilIface 20 9 true).run Tryz.prog w = .ok (.tuple #[.string ⟨#[]⟩, .bool false]) w := by kernel_rfl
@[go_sem] theorem ta_nil_list (w : World) : (Instr.typeAssert .nilIface 20 60 true).run Tryz.prog w = .ok (.tuple #[.slice none 0 0, .bool false]) w := by kernel_rfl
@[go_sem] theorem ta_nil_map (w : World) : (Instr.typeAssert .nilIface 20 106 true).run Tryz.prog w = .ok (.tuple #[.map none, .bool false]) w := by kernel_rfl
@[go_sem] theorem ta_nil_big (w : World) : (Instr.typeAssert .nilIface 20 158 true).run Tryz.prog w = .ok (.tuple #[.pointer none, .bool false]) w := by kernel_rfl
@[go_sem] theorem ta_nil_num (w : World) : (Instr.typeAssert .nilIface 20 160 true).run Tryz.prog w = .ok (.tuple #[.string ⟨#[]⟩, .bool false]) w := by kernel_rfl
@[go_sem] theorem ta_nil_err (w : World) : (Instr.typeAssert .nilIface 20 75 true).run Tryz.prog w = .ok (.tuple #[.nilIface, .bool false]) w := by kernel_rfl
end Go.Proofs.YtnlndpgbhmkanaaGreatDoor.Ta
