/- What toNumberE, toUnsignedNumberE and the doors with an error of each int and uint type and of float64 answer of nil and of a bool: the number 0 or 1, and no error; no conditions. -/
import Derived.Test.YtbaanihpckeiaaaGreatDoorProg
import Derived.WalkKit
import Derived.WalkSpells
import Derived.WalkLawsBesides
import Derived.Handy
import Derived.BigQuiet
import Derived.Deep.QuietTactic
import Derived.KernelRfl
import Derived.Test.YtbaanihpckeiaaaGreatDoorB
import Derived.Test.YtbaanihpckeiaaaGreatDoorC

namespace Go.Proofs.YtbaanihpckeiaaaGreatDoor
open Go.RowKit
set_option maxRecDepth 100000 in
set_option maxHeartbeats 400000 in
theorem numE_int8_nil (v : Value) (w : World) : Calls Tryz.prog 63 #[.nilIface, v] w fun e w' => e = .returned (.tuple #[.int .i8 0, .nilIface]) ∧ w = w' := by
  go_enter Tryz.func63, Tryz.ntmps63
  go_wp2_with (go_at_call 92; refine (num_int8_nil _).mono ?_; rintro e w' ⟨rfl, rfl⟩)
  go_ret2
  exact ⟨rfl, rfl⟩
set_option maxRecDepth 100000 in
set_option maxHeartbeats 400000 in
theorem numE_int8_true (v : Value) (w : World) : Calls Tryz.prog 63 #[.iface 4 (.bool true), v] w fun e w' => e = .returned (.tuple #[.int .i8 1, .nilIface]) ∧ w = w' := by
  go_enter Tryz.func63, Tryz.ntmps63
  go_wp2_with (go_at_call 92; refine (num_int8_true _).mono ?_; rintro e w' ⟨rfl, rfl⟩)
  go_ret2
  exact ⟨rfl, rfl⟩
set_option maxRecDepth 100000 in
set_option maxHeartbeats 400000 in
theorem numE_int8_false (v : Value) (w : World) : Calls Tryz.prog 63 #[.iface 4 (.bool false), v] w fun e w' => e = .returned (.tuple #[.int .i8 0, .nilIface]) ∧ w = w' := by
  go_enter Tryz.func63, Tryz.ntmps63
  go_wp2_with (go_at_call 92; refine (num_int8_false _).mono ?_; rintro e w' ⟨rfl, rfl⟩)
  go_ret2
  exact ⟨rfl, rfl⟩
set_option maxRecDepth 100000 in
set_option maxHeartbeats 400000 in
theorem to_int8_nil (w : World) : Calls Tryz.prog 26 #[.nilIface] w fun e w' => e = .returned (.tuple #[.int .i8 0, .nilIface]) ∧ w = w' := by
  go_enter Tryz.func26, Tryz.ntmps26
  go_wp2_with (go_at_call 63; refine (numE_int8_nil _ _).mono ?_; rintro e w' ⟨rfl, rfl⟩)
  go_ret2
  exact ⟨rfl, rfl⟩
set_option maxRecDepth 100000 in
set_option maxHeartbeats 400000 in
theorem to_int8_true (w : World) : Calls Tryz.prog 26 #[.iface 4 (.bool true)] w fun e w' => e = .returned (.tuple #[.int .i8 1, .nilIface]) ∧ w = w' := by
  go_enter Tryz.func26, Tryz.ntmps26
  go_wp2_with (go_at_call 63; refine (numE_int8_true _ _).mono ?_; rintro e w' ⟨rfl, rfl⟩)
  go_ret2
  exact ⟨rfl, rfl⟩
set_option maxRecDepth 100000 in
set_option maxHeartbeats 400000 in
theorem to_int8_false (w : World) : Calls Tryz.prog 26 #[.iface 4 (.bool false)] w fun e w' => e = .returned (.tuple #[.int .i8 0, .nilIface]) ∧ w = w' := by
  go_enter Tryz.func26, Tryz.ntmps26
  go_wp2_with (go_at_call 63; refine (numE_int8_false _ _).mono ?_; rintro e w' ⟨rfl, rfl⟩)
  go_ret2
  exact ⟨rfl, rfl⟩
set_option maxRecDepth 100000 in
set_option maxHeartbeats 400000 in
theorem numE_int16_nil (v : Value) (w : World) : Calls Tryz.prog 65 #[.nilIface, v] w fun e w' => e = .returned (.tuple #[.int .i16 0, .nilIface]) ∧ w = w' := by
  go_enter Tryz.func65, Tryz.ntmps65
  go_wp2_with (go_at_call 95; refine (num_int16_nil _).mono ?_; rintro e w' ⟨rfl, rfl⟩)
  go_ret2
  exact ⟨rfl, rfl⟩
set_option maxRecDepth 100000 in
set_option maxHeartbeats 400000 in
theorem numE_int16_true (v : Value) (w : World) : Calls Tryz.prog 65 #[.iface 4 (.bool true), v] w fun e w' => e = .returned (.tuple #[.int .i16 1, .nilIface]) ∧ w = w' := by
  go_enter Tryz.func65, Tryz.ntmps65
  go_wp2_with (go_at_call 95; refine (num_int16_true _).mono ?_; rintro e w' ⟨rfl, rfl⟩)
  go_ret2
  exact ⟨rfl, rfl⟩
set_option maxRecDepth 100000 in
set_option maxHeartbeats 400000 in
theorem numE_int16_false (v : Value) (w : World) : Calls Tryz.prog 65 #[.iface 4 (.bool false), v] w fun e w' => e = .returned (.tuple #[.int .i16 0, .nilIface]) ∧ w = w' := by
  go_enter Tryz.func65, Tryz.ntmps65
  go_wp2_with (go_at_call 95; refine (num_int16_false _).mono ?_; rintro e w' ⟨rfl, rfl⟩)
  go_ret2
  exact ⟨rfl, rfl⟩
set_option maxRecDepth 100000 in
set_option maxHeartbeats 400000 in
theorem to_int16_nil (w : World) : Calls Tryz.prog 27 #[.nilIface] w fun e w' => e = .returned (.tuple #[.int .i16 0, .nilIface]) ∧ w = w' := by
  go_enter Tryz.func27, Tryz.ntmps27
  go_wp2_with (go_at_call 65; refine (numE_int16_nil _ _).mono ?_; rintro e w' ⟨rfl, rfl⟩)
  go_ret2
  exact ⟨rfl, rfl⟩
set_option maxRecDepth 100000 in
set_option maxHeartbeats 400000 in
theorem to_int16_true (w : World) : Calls Tryz.prog 27 #[.iface 4 (.bool true)] w fun e w' => e = .returned (.tuple #[.int .i16 1, .nilIface]) ∧ w = w' := by
  go_enter Tryz.func27, Tryz.ntmps27
  go_wp2_with (go_at_call 65; refine (numE_int16_true _ _).mono ?_; rintro e w' ⟨rfl, rfl⟩)
  go_ret2
  exact ⟨rfl, rfl⟩
set_option maxRecDepth 100000 in
set_option maxHeartbeats 400000 in
theorem to_int16_false (w : World) : Calls Tryz.prog 27 #[.iface 4 (.bool false)] w fun e w' => e = .returned (.tuple #[.int .i16 0, .nilIface]) ∧ w = w' := by
  go_enter Tryz.func27, Tryz.ntmps27
  go_wp2_with (go_at_call 65; refine (numE_int16_false _ _).mono ?_; rintro e w' ⟨rfl, rfl⟩)
  go_ret2
  exact ⟨rfl, rfl⟩
set_option maxRecDepth 100000 in
set_option maxHeartbeats 400000 in
theorem numE_int32_nil (v : Value) (w : World) : Calls Tryz.prog 67 #[.nilIface, v] w fun e w' => e = .returned (.tuple #[.int .i32 0, .nilIface]) ∧ w = w' := by
  go_enter Tryz.func67, Tryz.ntmps67
  go_wp2_with (go_at_call 96; refine (num_int32_nil _).mono ?_; rintro e w' ⟨rfl, rfl⟩)
  go_ret2
  exact ⟨rfl, rfl⟩
set_option maxRecDepth 100000 in
set_option maxHeartbeats 400000 in
theorem numE_int32_true (v : Value) (w : World) : Calls Tryz.prog 67 #[.iface 4 (.bool true), v] w fun e w' => e = .returned (.tuple #[.int .i32 1, .nilIface]) ∧ w = w' := by
  go_enter Tryz.func67, Tryz.ntmps67
  go_wp2_with (go_at_call 96; refine (num_int32_true _).mono ?_; rintro e w' ⟨rfl, rfl⟩)
  go_ret2
  exact ⟨rfl, rfl⟩
set_option maxRecDepth 100000 in
set_option maxHeartbeats 400000 in
theorem numE_int32_false (v : Value) (w : World) : Calls Tryz.prog 67 #[.iface 4 (.bool false), v] w fun e w' => e = .returned (.tuple #[.int .i32 0, .nilIface]) ∧ w = w' := by
  go_enter Tryz.func67, Tryz.ntmps67
  go_wp2_with (go_at_call 96; refine (num_int32_false _).mono ?_; rintro e w' ⟨rfl, rfl⟩)
  go_ret2
  exact ⟨rfl, rfl⟩
set_option maxRecDepth 100000 in
set_option maxHeartbeats 400000 in
theorem to_int32_nil (w : World) : Calls Tryz.prog 28 #[.nilIface] w fun e w' => e = .returned (.tuple #[.int .i32 0, .nilIface]) ∧ w = w' := by
  go_enter Tryz.func28, Tryz.ntmps28
  go_wp2_with (go_at_call 67; refine (numE_int32_nil _ _).mono ?_; rintro e w' ⟨rfl, rfl⟩)
  go_ret2
  exact ⟨rfl, rfl⟩
set_option maxRecDepth 100000 in
set_option maxHeartbeats 400000 in
theorem to_int32_true (w : World) : Calls Tryz.prog 28 #[.iface 4 (.bool true)] w fun e w' => e = .returned (.tuple #[.int .i32 1, .nilIface]) ∧ w = w' := by
  go_enter Tryz.func28, Tryz.ntmps28
  go_wp2_with (go_at_call 67; refine (numE_int32_true _ _).mono ?_; rintro e w' ⟨rfl, rfl⟩)
  go_ret2
  exact ⟨rfl, rfl⟩
set_option maxRecDepth 100000 in
set_option maxHeartbeats 400000 in
theorem to_int32_false (w : World) : Calls Tryz.prog 28 #[.iface 4 (.bool false)] w fun e w' => e = .returned (.tuple #[.int .i32 0, .nilIface]) ∧ w = w' := by
  go_enter Tryz.func28, Tryz.ntmps28
  go_wp2_with (go_at_call 67; refine (numE_int32_false _ _).mono ?_; rintro e w' ⟨rfl, rfl⟩)
  go_ret2
  exact ⟨rfl, rfl⟩
set_option maxRecDepth 100000 in
set_option maxHeartbeats 400000 in
theorem numE_int64_nil (v : Value) (w : World) : Calls Tryz.prog 69 #[.nilIface, v] w fun e w' => e = .returned (.tuple #[.int .i64 0, .nilIface]) ∧ w = w' := by
  go_enter Tryz.func69, Tryz.ntmps69
  go_wp2_with (go_at_call 97; refine (num_int64_nil _).mono ?_; rintro e w' ⟨rfl, rfl⟩)
  go_ret2
  exact ⟨rfl, rfl⟩
set_option maxRecDepth 100000 in
set_option maxHeartbeats 400000 in
theorem numE_int64_true (v : Value) (w : World) : Calls Tryz.prog 69 #[.iface 4 (.bool true), v] w fun e w' => e = .returned (.tuple #[.int .i64 1, .nilIface]) ∧ w = w' := by
  go_enter Tryz.func69, Tryz.ntmps69
  go_wp2_with (go_at_call 97; refine (num_int64_true _).mono ?_; rintro e w' ⟨rfl, rfl⟩)
  go_ret2
  exact ⟨rfl, rfl⟩
set_option maxRecDepth 100000 in
set_option maxHeartbeats 400000 in
theorem numE_int64_false (v : Value) (w : World) : Calls Tryz.prog 69 #[.iface 4 (.bool false), v] w fun e w' => e = .returned (.tuple #[.int .i64 0, .nilIface]) ∧ w = w' := by
  go_enter Tryz.func69, Tryz.ntmps69
  go_wp2_with (go_at_call 97; refine (num_int64_false _).mono ?_; rintro e w' ⟨rfl, rfl⟩)
  go_ret2
  exact ⟨rfl, rfl⟩
set_option maxRecDepth 100000 in
set_option maxHeartbeats 400000 in
theorem to_int64_nil (w : World) : Calls Tryz.prog 29 #[.nilIface] w fun e w' => e = .returned (.tuple #[.int .i64 0, .nilIface]) ∧ w = w' := by
  go_enter Tryz.func29, Tryz.ntmps29
  go_wp2_with (go_at_call 69; refine (numE_int64_nil _ _).mono ?_; rintro e w' ⟨rfl, rfl⟩)
  go_ret2
  exact ⟨rfl, rfl⟩
set_option maxRecDepth 100000 in
set_option maxHeartbeats 400000 in
theorem to_int64_true (w : World) : Calls Tryz.prog 29 #[.iface 4 (.bool true)] w fun e w' => e = .returned (.tuple #[.int .i64 1, .nilIface]) ∧ w = w' := by
  go_enter Tryz.func29, Tryz.ntmps29
  go_wp2_with (go_at_call 69; refine (numE_int64_true _ _).mono ?_; rintro e w' ⟨rfl, rfl⟩)
  go_ret2
  exact ⟨rfl, rfl⟩
set_option maxRecDepth 100000 in
set_option maxHeartbeats 400000 in
theorem to_int64_false (w : World) : Calls Tryz.prog 29 #[.iface 4 (.bool false)] w fun e w' => e = .returned (.tuple #[.int .i64 0, .nilIface]) ∧ w = w' := by
  go_enter Tryz.func29, Tryz.ntmps29
  go_wp2_with (go_at_call 69; refine (numE_int64_false _ _).mono ?_; rintro e w' ⟨rfl, rfl⟩)
  go_ret2
  exact ⟨rfl, rfl⟩
set_option maxRecDepth 100000 in
set_option maxHeartbeats 400000 in
theorem numE_int_nil (v : Value) (w : World) : Calls Tryz.prog 71 #[.nilIface, v] w fun e w' => e = .returned (.tuple #[.int .i64 0, .nilIface]) ∧ w = w' := by
  go_enter Tryz.func71, Tryz.ntmps71
  go_wp2_with (go_at_call 98; refine (num_int_nil _).mono ?_; rintro e w' ⟨rfl, rfl⟩)
  go_ret2
  exact ⟨rfl, rfl⟩
set_option maxRecDepth 100000 in
set_option maxHeartbeats 400000 in
theorem numE_int_true (v : Value) (w : World) : Calls Tryz.prog 71 #[.iface 4 (.bool true), v] w fun e w' => e = .returned (.tuple #[.int .i64 1, .nilIface]) ∧ w = w' := by
  go_enter Tryz.func71, Tryz.ntmps71
  go_wp2_with (go_at_call 98; refine (num_int_true _).mono ?_; rintro e w' ⟨rfl, rfl⟩)
  go_ret2
  exact ⟨rfl, rfl⟩
set_option maxRecDepth 100000 in
set_option maxHeartbeats 400000 in
theorem numE_int_false (v : Value) (w : World) : Calls Tryz.prog 71 #[.iface 4 (.bool false), v] w fun e w' => e = .returned (.tuple #[.int .i64 0, .nilIface]) ∧ w = w' := by
  go_enter Tryz.func71, Tryz.ntmps71
  go_wp2_with (go_at_call 98; refine (num_int_false _).mono ?_; rintro e w' ⟨rfl, rfl⟩)
  go_ret2
  exact ⟨rfl, rfl⟩
set_option maxRecDepth 100000 in
set_option maxHeartbeats 400000 in
theorem to_int_nil (w : World) : Calls Tryz.prog 30 #[.nilIface] w fun e w' => e = .returned (.tuple #[.int .i64 0, .nilIface]) ∧ w = w' := by
  go_enter Tryz.func30, Tryz.ntmps30
  go_wp2_with (go_at_call 71; refine (numE_int_nil _ _).mono ?_; rintro e w' ⟨rfl, rfl⟩)
  go_ret2
  exact ⟨rfl, rfl⟩
set_option maxRecDepth 100000 in
set_option maxHeartbeats 400000 in
theorem to_int_true (w : World) : Calls Tryz.prog 30 #[.iface 4 (.bool true)] w fun e w' => e = .returned (.tuple #[.int .i64 1, .nilIface]) ∧ w = w' := by
  go_enter Tryz.func30, Tryz.ntmps30
  go_wp2_with (go_at_call 71; refine (numE_int_true _ _).mono ?_; rintro e w' ⟨rfl, rfl⟩)
  go_ret2
  exact ⟨rfl, rfl⟩
set_option maxRecDepth 100000 in
set_option maxHeartbeats 400000 in
theorem to_int_false (w : World) : Calls Tryz.prog 30 #[.iface 4 (.bool false)] w fun e w' => e = .returned (.tuple #[.int .i64 0, .nilIface]) ∧ w = w' := by
  go_enter Tryz.func30, Tryz.ntmps30
  go_wp2_with (go_at_call 71; refine (numE_int_false _ _).mono ?_; rintro e w' ⟨rfl, rfl⟩)
  go_ret2
  exact ⟨rfl, rfl⟩
set_option maxRecDepth 100000 in
set_option maxHeartbeats 400000 in
theorem numE_float64_nil (v : Value) (w : World) : Calls Tryz.prog 36 #[.nilIface, v] w fun e w' => e = .returned (.tuple #[.float .f64 0, .nilIface]) ∧ w = w' := by
  go_enter Tryz.func36, Tryz.ntmps36
  go_wp2_with (go_at_call 83; refine (num_float64_nil _).mono ?_; rintro e w' ⟨rfl, rfl⟩)
  go_ret2
  exact ⟨rfl, rfl⟩
set_option maxRecDepth 100000 in
set_option maxHeartbeats 400000 in
theorem numE_float64_true (v : Value) (w : World) : Calls Tryz.prog 36 #[.iface 4 (.bool true), v] w fun e w' => e = .returned (.tuple #[.float .f64 4607182418800017408, .nilIface]) ∧ w = w' := by
  go_enter Tryz.func36, Tryz.ntmps36
  go_wp2_with (go_at_call 83; refine (num_float64_true _).mono ?_; rintro e w' ⟨rfl, rfl⟩)
  go_ret2
  exact ⟨rfl, rfl⟩
set_option maxRecDepth 100000 in
set_option maxHeartbeats 400000 in
theorem numE_float64_false (v : Value) (w : World) : Calls Tryz.prog 36 #[.iface 4 (.bool false), v] w fun e w' => e = .returned (.tuple #[.float .f64 0, .nilIface]) ∧ w = w' := by
  go_enter Tryz.func36, Tryz.ntmps36
  go_wp2_with (go_at_call 83; refine (num_float64_false _).mono ?_; rintro e w' ⟨rfl, rfl⟩)
  go_ret2
  exact ⟨rfl, rfl⟩
set_option maxRecDepth 100000 in
set_option maxHeartbeats 400000 in
theorem to_float64_nil (w : World) : Calls Tryz.prog 22 #[.nilIface] w fun e w' => e = .returned (.tuple #[.float .f64 0, .nilIface]) ∧ w = w' := by
  go_enter Tryz.func22, Tryz.ntmps22
  go_wp2_with (go_at_call 36; refine (numE_float64_nil _ _).mono ?_; rintro e w' ⟨rfl, rfl⟩)
  go_ret2
  exact ⟨rfl, rfl⟩
set_option maxRecDepth 100000 in
set_option maxHeartbeats 400000 in
theorem to_float64_true (w : World) : Calls Tryz.prog 22 #[.iface 4 (.bool true)] w fun e w' => e = .returned (.tuple #[.float .f64 4607182418800017408, .nilIface]) ∧ w = w' := by
  go_enter Tryz.func22, Tryz.ntmps22
  go_wp2_with (go_at_call 36; refine (numE_float64_true _ _).mono ?_; rintro e w' ⟨rfl, rfl⟩)
  go_ret2
  exact ⟨rfl, rfl⟩
set_option maxRecDepth 100000 in
set_option maxHeartbeats 400000 in
theorem to_float64_false (w : World) : Calls Tryz.prog 22 #[.iface 4 (.bool false)] w fun e w' => e = .returned (.tuple #[.float .f64 0, .nilIface]) ∧ w = w' := by
  go_enter Tryz.func22, Tryz.ntmps22
  go_wp2_with (go_at_call 36; refine (numE_float64_false _ _).mono ?_; rintro e w' ⟨rfl, rfl⟩)
  go_ret2
  exact ⟨rfl, rfl⟩
set_option maxRecDepth 100000 in
set_option maxHeartbeats 400000 in
theorem numE_uint8_nil (v : Value) (w : World) : Calls Tryz.prog 73 #[.nilIface, v] w fun e w' => e = .returned (.tuple #[.int .u8 0, .nilIface]) ∧ w = w' := by
  go_enter Tryz.func73, Tryz.ntmps73
  go_wp2_with (go_at_call 99; refine (num_uint8_nil _).mono ?_; rintro e w' ⟨rfl, rfl⟩)
  go_ret2
  exact ⟨rfl, rfl⟩
set_option maxRecDepth 100000 in
set_option maxHeartbeats 400000 in
theorem numE_uint8_true (v : Value) (w : World) : Calls Tryz.prog 73 #[.iface 4 (.bool true), v] w fun e w' => e = .returned (.tuple #[.int .u8 1, .nilIface]) ∧ w = w' := by
  go_enter Tryz.func73, Tryz.ntmps73
  go_wp2_with (go_at_call 99; refine (num_uint8_true _).mono ?_; rintro e w' ⟨rfl, rfl⟩)
  go_ret2
  exact ⟨rfl, rfl⟩
set_option maxRecDepth 100000 in
set_option maxHeartbeats 400000 in
theorem numE_uint8_false (v : Value) (w : World) : Calls Tryz.prog 73 #[.iface 4 (.bool false), v] w fun e w' => e = .returned (.tuple #[.int .u8 0, .nilIface]) ∧ w = w' := by
  go_enter Tryz.func73, Tryz.ntmps73
  go_wp2_with (go_at_call 99; refine (num_uint8_false _).mono ?_; rintro e w' ⟨rfl, rfl⟩)
  go_ret2
  exact ⟨rfl, rfl⟩
set_option maxRecDepth 100000 in
set_option maxHeartbeats 400000 in
theorem to_uint8_nil (w : World) : Calls Tryz.prog 31 #[.nilIface] w fun e w' => e = .returned (.tuple #[.int .u8 0, .nilIface]) ∧ w = w' := by
  go_enter Tryz.func31, Tryz.ntmps31
  go_wp2_with (go_at_call 73; refine (numE_uint8_nil _ _).mono ?_; rintro e w' ⟨rfl, rfl⟩)
  go_ret2
  exact ⟨rfl, rfl⟩
set_option maxRecDepth 100000 in
set_option maxHeartbeats 400000 in
theorem to_uint8_true (w : World) : Calls Tryz.prog 31 #[.iface 4 (.bool true)] w fun e w' => e = .returned (.tuple #[.int .u8 1, .nilIface]) ∧ w = w' := by
  go_enter Tryz.func31, Tryz.ntmps31
  go_wp2_with (go_at_call 73; refine (numE_uint8_true _ _).mono ?_; rintro e w' ⟨rfl, rfl⟩)
  go_ret2
  exact ⟨rfl, rfl⟩
set_option maxRecDepth 100000 in
set_option maxHeartbeats 400000 in
theorem to_uint8_false (w : World) : Calls Tryz.prog 31 #[.iface 4 (.bool false)] w fun e w' => e = .returned (.tuple #[.int .u8 0, .nilIface]) ∧ w = w' := by
  go_enter Tryz.func31, Tryz.ntmps31
  go_wp2_with (go_at_call 73; refine (numE_uint8_false _ _).mono ?_; rintro e w' ⟨rfl, rfl⟩)
  go_ret2
  exact ⟨rfl, rfl⟩
set_option maxRecDepth 100000 in
set_option maxHeartbeats 400000 in
theorem numE_uint16_nil (v : Value) (w : World) : Calls Tryz.prog 75 #[.nilIface, v] w fun e w' => e = .returned (.tuple #[.int .u16 0, .nilIface]) ∧ w = w' := by
  go_enter Tryz.func75, Tryz.ntmps75
  go_wp2_with (go_at_call 102; refine (num_uint16_nil _).mono ?_; rintro e w' ⟨rfl, rfl⟩)
  go_ret2
  exact ⟨rfl, rfl⟩
set_option maxRecDepth 100000 in
set_option maxHeartbeats 400000 in
theorem numE_uint16_true (v : Value) (w : World) : Calls Tryz.prog 75 #[.iface 4 (.bool true), v] w fun e w' => e = .returned (.tuple #[.int .u16 1, .nilIface]) ∧ w = w' := by
  go_enter Tryz.func75, Tryz.ntmps75
  go_wp2_with (go_at_call 102; refine (num_uint16_true _).mono ?_; rintro e w' ⟨rfl, rfl⟩)
  go_ret2
  exact ⟨rfl, rfl⟩
set_option maxRecDepth 100000 in
set_option maxHeartbeats 400000 in
theorem numE_uint16_false (v : Value) (w : World) : Calls Tryz.prog 75 #[.iface 4 (.bool false), v] w fun e w' => e = .returned (.tuple #[.int .u16 0, .nilIface]) ∧ w = w' := by
  go_enter Tryz.func75, Tryz.ntmps75
  go_wp2_with (go_at_call 102; refine (num_uint16_false _).mono ?_; rintro e w' ⟨rfl, rfl⟩)
  go_ret2
  exact ⟨rfl, rfl⟩
set_option maxRecDepth 100000 in
set_option maxHeartbeats 400000 in
theorem to_uint16_nil (w : World) : Calls Tryz.prog 32 #[.nilIface] w fun e w' => e = .returned (.tuple #[.int .u16 0, .nilIface]) ∧ w = w' := by
  go_enter Tryz.func32, Tryz.ntmps32
  go_wp2_with (go_at_call 75; refine (numE_uint16_nil _ _).mono ?_; rintro e w' ⟨rfl, rfl⟩)
  go_ret2
  exact ⟨rfl, rfl⟩
set_option maxRecDepth 100000 in
set_option maxHeartbeats 400000 in
theorem to_uint16_true (w : World) : Calls Tryz.prog 32 #[.iface 4 (.bool true)] w fun e w' => e = .returned (.tuple #[.int .u16 1, .nilIface]) ∧ w = w' := by
  go_enter Tryz.func32, Tryz.ntmps32
  go_wp2_with (go_at_call 75; refine (numE_uint16_true _ _).mono ?_; rintro e w' ⟨rfl, rfl⟩)
  go_ret2
  exact ⟨rfl, rfl⟩
set_option maxRecDepth 100000 in
set_option maxHeartbeats 400000 in
theorem to_uint16_false (w : World) : Calls Tryz.prog 32 #[.iface 4 (.bool false)] w fun e w' => e = .returned (.tuple #[.int .u16 0, .nilIface]) ∧ w = w' := by
  go_enter Tryz.func32, Tryz.ntmps32
  go_wp2_with (go_at_call 75; refine (numE_uint16_false _ _).mono ?_; rintro e w' ⟨rfl, rfl⟩)
  go_ret2
  exact ⟨rfl, rfl⟩
set_option maxRecDepth 100000 in
set_option maxHeartbeats 400000 in
theorem numE_uint32_nil (v : Value) (w : World) : Calls Tryz.prog 77 #[.nilIface, v] w fun e w' => e = .returned (.tuple #[.int .u32 0, .nilIface]) ∧ w = w' := by
  go_enter Tryz.func77, Tryz.ntmps77
  go_wp2_with (go_at_call 103; refine (num_uint32_nil _).mono ?_; rintro e w' ⟨rfl, rfl⟩)
  go_ret2
  exact ⟨rfl, rfl⟩
set_option maxRecDepth 100000 in
set_option maxHeartbeats 400000 in
theorem numE_uint32_true (v : Value) (w : World) : Calls Tryz.prog 77 #[.iface 4 (.bool true), v] w fun e w' => e = .returned (.tuple #[.int .u32 1, .nilIface]) ∧ w = w' := by
  go_enter Tryz.func77, Tryz.ntmps77
  go_wp2_with (go_at_call 103; refine (num_uint32_true _).mono ?_; rintro e w' ⟨rfl, rfl⟩)
  go_ret2
  exact ⟨rfl, rfl⟩
set_option maxRecDepth 100000 in
set_option maxHeartbeats 400000 in
theorem numE_uint32_false (v : Value) (w : World) : Calls Tryz.prog 77 #[.iface 4 (.bool false), v] w fun e w' => e = .returned (.tuple #[.int .u32 0, .nilIface]) ∧ w = w' := by
  go_enter Tryz.func77, Tryz.ntmps77
  go_wp2_with (go_at_call 103; refine (num_uint32_false _).mono ?_; rintro e w' ⟨rfl, rfl⟩)
  go_ret2
  exact ⟨rfl, rfl⟩
set_option maxRecDepth 100000 in
set_option maxHeartbeats 400000 in
theorem to_uint32_nil (w : World) : Calls Tryz.prog 33 #[.nilIface] w fun e w' => e = .returned (.tuple #[.int .u32 0, .nilIface]) ∧ w = w' := by
  go_enter Tryz.func33, Tryz.ntmps33
  go_wp2_with (go_at_call 77; refine (numE_uint32_nil _ _).mono ?_; rintro e w' ⟨rfl, rfl⟩)
  go_ret2
  exact ⟨rfl, rfl⟩
set_option maxRecDepth 100000 in
set_option maxHeartbeats 400000 in
theorem to_uint32_true (w : World) : Calls Tryz.prog 33 #[.iface 4 (.bool true)] w fun e w' => e = .returned (.tuple #[.int .u32 1, .nilIface]) ∧ w = w' := by
  go_enter Tryz.func33, Tryz.ntmps33
  go_wp2_with (go_at_call 77; refine (numE_uint32_true _ _).mono ?_; rintro e w' ⟨rfl, rfl⟩)
  go_ret2
  exact ⟨rfl, rfl⟩
set_option maxRecDepth 100000 in
set_option maxHeartbeats 400000 in
theorem to_uint32_false (w : World) : Calls Tryz.prog 33 #[.iface 4 (.bool false)] w fun e w' => e = .returned (.tuple #[.int .u32 0, .nilIface]) ∧ w = w' := by
  go_enter Tryz.func33, Tryz.ntmps33
  go_wp2_with (go_at_call 77; refine (numE_uint32_false _ _).mono ?_; rintro e w' ⟨rfl, rfl⟩)
  go_ret2
  exact ⟨rfl, rfl⟩
set_option maxRecDepth 100000 in
set_option maxHeartbeats 400000 in
theorem numE_uint64_nil (v : Value) (w : World) : Calls Tryz.prog 79 #[.nilIface, v] w fun e w' => e = .returned (.tuple #[.int .u64 0, .nilIface]) ∧ w = w' := by
  go_enter Tryz.func79, Tryz.ntmps79
  go_wp2_with (go_at_call 104; refine (num_uint64_nil _).mono ?_; rintro e w' ⟨rfl, rfl⟩)
  go_ret2
  exact ⟨rfl, rfl⟩
set_option maxRecDepth 100000 in
set_option maxHeartbeats 400000 in
theorem numE_uint64_true (v : Value) (w : World) : Calls Tryz.prog 79 #[.iface 4 (.bool true), v] w fun e w' => e = .returned (.tuple #[.int .u64 1, .nilIface]) ∧ w = w' := by
  go_enter Tryz.func79, Tryz.ntmps79
  go_wp2_with (go_at_call 104; refine (num_uint64_true _).mono ?_; rintro e w' ⟨rfl, rfl⟩)
  go_ret2
  exact ⟨rfl, rfl⟩
set_option maxRecDepth 100000 in
set_option maxHeartbeats 400000 in
theorem numE_uint64_false (v : Value) (w : World) : Calls Tryz.prog 79 #[.iface 4 (.bool false), v] w fun e w' => e = .returned (.tuple #[.int .u64 0, .nilIface]) ∧ w = w' := by
  go_enter Tryz.func79, Tryz.ntmps79
  go_wp2_with (go_at_call 104; refine (num_uint64_false _).mono ?_; rintro e w' ⟨rfl, rfl⟩)
  go_ret2
  exact ⟨rfl, rfl⟩
set_option maxRecDepth 100000 in
set_option maxHeartbeats 400000 in
theorem to_uint64_nil (w : World) : Calls Tryz.prog 34 #[.nilIface] w fun e w' => e = .returned (.tuple #[.int .u64 0, .nilIface]) ∧ w = w' := by
  go_enter Tryz.func34, Tryz.ntmps34
  go_wp2_with (go_at_call 79; refine (numE_uint64_nil _ _).mono ?_; rintro e w' ⟨rfl, rfl⟩)
  go_ret2
  exact ⟨rfl, rfl⟩
set_option maxRecDepth 100000 in
set_option maxHeartbeats 400000 in
theorem to_uint64_true (w : World) : Calls Tryz.prog 34 #[.iface 4 (.bool true)] w fun e w' => e = .returned (.tuple #[.int .u64 1, .nilIface]) ∧ w = w' := by
  go_enter Tryz.func34, Tryz.ntmps34
  go_wp2_with (go_at_call 79; refine (numE_uint64_true _ _).mono ?_; rintro e w' ⟨rfl, rfl⟩)
  go_ret2
  exact ⟨rfl, rfl⟩
set_option maxRecDepth 100000 in
set_option maxHeartbeats 400000 in
theorem to_uint64_false (w : World) : Calls Tryz.prog 34 #[.iface 4 (.bool false)] w fun e w' => e = .returned (.tuple #[.int .u64 0, .nilIface]) ∧ w = w' := by
  go_enter Tryz.func34, Tryz.ntmps34
  go_wp2_with (go_at_call 79; refine (numE_uint64_false _ _).mono ?_; rintro e w' ⟨rfl, rfl⟩)
  go_ret2
  exact ⟨rfl, rfl⟩
set_option maxRecDepth 100000 in
set_option maxHeartbeats 400000 in
theorem numE_uint_nil (v : Value) (w : World) : Calls Tryz.prog 81 #[.nilIface, v] w fun e w' => e = .returned (.tuple #[.int .u64 0, .nilIface]) ∧ w = w' := by
  go_enter Tryz.func81, Tryz.ntmps81
  go_wp2_with (go_at_call 105; refine (num_uint_nil _).mono ?_; rintro e w' ⟨rfl, rfl⟩)
  go_ret2
  exact ⟨rfl, rfl⟩
set_option maxRecDepth 100000 in
set_option maxHeartbeats 400000 in
theorem numE_uint_true (v : Value) (w : World) : Calls Tryz.prog 81 #[.iface 4 (.bool true), v] w fun e w' => e = .returned (.tuple #[.int .u64 1, .nilIface]) ∧ w = w' := by
  go_enter Tryz.func81, Tryz.ntmps81
  go_wp2_with (go_at_call 105; refine (num_uint_true _).mono ?_; rintro e w' ⟨rfl, rfl⟩)
  go_ret2
  exact ⟨rfl, rfl⟩
set_option maxRecDepth 100000 in
set_option maxHeartbeats 400000 in
theorem numE_uint_false (v : Value) (w : World) : Calls Tryz.prog 81 #[.iface 4 (.bool false), v] w fun e w' => e = .returned (.tuple #[.int .u64 0, .nilIface]) ∧ w = w' := by
  go_enter Tryz.func81, Tryz.ntmps81
  go_wp2_with (go_at_call 105; refine (num_uint_false _).mono ?_; rintro e w' ⟨rfl, rfl⟩)
  go_ret2
  exact ⟨rfl, rfl⟩
set_option maxRecDepth 100000 in
set_option maxHeartbeats 400000 in
theorem to_uint_nil (w : World) : Calls Tryz.prog 35 #[.nilIface] w fun e w' => e = .returned (.tuple #[.int .u64 0, .nilIface]) ∧ w = w' := by
  go_enter Tryz.func35, Tryz.ntmps35
  go_wp2_with (go_at_call 81; refine (numE_uint_nil _ _).mono ?_; rintro e w' ⟨rfl, rfl⟩)
  go_ret2
  exact ⟨rfl, rfl⟩
set_option maxRecDepth 100000 in
set_option maxHeartbeats 400000 in
theorem to_uint_true (w : World) : Calls Tryz.prog 35 #[.iface 4 (.bool true)] w fun e w' => e = .returned (.tuple #[.int .u64 1, .nilIface]) ∧ w = w' := by
  go_enter Tryz.func35, Tryz.ntmps35
  go_wp2_with (go_at_call 81; refine (numE_uint_true _ _).mono ?_; rintro e w' ⟨rfl, rfl⟩)
  go_ret2
  exact ⟨rfl, rfl⟩
set_option maxRecDepth 100000 in
set_option maxHeartbeats 400000 in
theorem to_uint_false (w : World) : Calls Tryz.prog 35 #[.iface 4 (.bool false)] w fun e w' => e = .returned (.tuple #[.int .u64 0, .nilIface]) ∧ w = w' := by
  go_enter Tryz.func35, Tryz.ntmps35
  go_wp2_with (go_at_call 81; refine (numE_uint_false _ _).mono ?_; rintro e w' ⟨rfl, rfl⟩)
  go_ret2
  exact ⟨rfl, rfl⟩
end Go.Proofs.YtbaanihpckeiaaaGreatDoor
