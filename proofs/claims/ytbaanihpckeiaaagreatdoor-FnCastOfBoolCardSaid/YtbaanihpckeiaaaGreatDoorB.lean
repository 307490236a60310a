/- What indirect and toNumber at each int type and at float64 answer of nil and of a bool: the same value; the number 0 or 1, and true; no conditions. -/
import Derived.Test.YtbaanihpckeiaaaGreatDoorProg
import Derived.WalkKit
import Derived.WalkSpells
import Derived.WalkLawsBesides
import Derived.Handy
import Derived.BigQuiet
import Derived.Deep.QuietTactic
import Derived.KernelRfl
import Derived.Test.YtbaanihpckeiaaaGreatDoorA

namespace Go.Proofs.YtbaanihpckeiaaaGreatDoor
open Go.RowKit
set_option maxRecDepth 100000 in
set_option maxHeartbeats 400000 in
theorem indirect_nil (w : World) : Calls Tryz.prog 54 #[.nilIface] w fun e w' => e = .returned (.tuple #[.nilIface, .bool false]) ∧ w = w' := by
  go_enter Tryz.func54, Tryz.ntmps54
  go_wp2
  go_ret2
  exact ⟨rfl, rfl⟩
set_option maxRecDepth 100000 in
set_option maxHeartbeats 400000 in
theorem indirect_bool (b : Bool) (w : World) : Calls Tryz.prog 54 #[.iface 4 (.bool b)] w fun e w' => e = .returned (.tuple #[.iface 4 (.bool b), .bool false]) ∧ w = w' := by
  go_enter Tryz.func54, Tryz.ntmps54
  go_wp2
  go_ret2
  exact ⟨rfl, rfl⟩
set_option maxRecDepth 100000 in
set_option maxHeartbeats 400000 in
theorem indirect_string (b : ByteArray) (w : World) : Calls Tryz.prog 54 #[.iface 9 (.string b)] w fun e w' => e = .returned (.tuple #[.iface 9 (.string b), .bool false]) ∧ w = w' := by
  go_enter Tryz.func54, Tryz.ntmps54
  go_wp2
  go_ret2
  exact ⟨rfl, rfl⟩
set_option maxRecDepth 100000 in
set_option maxHeartbeats 400000 in
theorem num_int8_nil (w : World) : Calls Tryz.prog 92 #[.nilIface] w fun e w' => e = .returned (.tuple #[.int .i8 0, .bool true]) ∧ w = w' := by
  go_enter Tryz.func92, Tryz.ntmps92
  go_wp2_with (go_at_call 54; refine (indirect_nil _).mono ?_; rintro e w' ⟨rfl, rfl⟩)
  go_ret2
  exact ⟨rfl, rfl⟩
set_option maxRecDepth 100000 in
set_option maxHeartbeats 400000 in
theorem num_int8_true (w : World) : Calls Tryz.prog 92 #[.iface 4 (.bool true)] w fun e w' => e = .returned (.tuple #[.int .i8 1, .bool true]) ∧ w = w' := by
  go_enter Tryz.func92, Tryz.ntmps92
  go_wp2_with (go_at_call 54; refine (indirect_bool _ _).mono ?_; rintro e w' ⟨rfl, rfl⟩)
  go_ret2
  exact ⟨rfl, rfl⟩
set_option maxRecDepth 100000 in
set_option maxHeartbeats 400000 in
theorem num_int8_false (w : World) : Calls Tryz.prog 92 #[.iface 4 (.bool false)] w fun e w' => e = .returned (.tuple #[.int .i8 0, .bool true]) ∧ w = w' := by
  go_enter Tryz.func92, Tryz.ntmps92
  go_wp2_with (go_at_call 54; refine (indirect_bool _ _).mono ?_; rintro e w' ⟨rfl, rfl⟩)
  go_ret2
  exact ⟨rfl, rfl⟩
set_option maxRecDepth 100000 in
set_option maxHeartbeats 400000 in
theorem num_int16_nil (w : World) : Calls Tryz.prog 95 #[.nilIface] w fun e w' => e = .returned (.tuple #[.int .i16 0, .bool true]) ∧ w = w' := by
  go_enter Tryz.func95, Tryz.ntmps95
  go_wp2_with (go_at_call 54; refine (indirect_nil _).mono ?_; rintro e w' ⟨rfl, rfl⟩)
  go_ret2
  exact ⟨rfl, rfl⟩
set_option maxRecDepth 100000 in
set_option maxHeartbeats 400000 in
theorem num_int16_true (w : World) : Calls Tryz.prog 95 #[.iface 4 (.bool true)] w fun e w' => e = .returned (.tuple #[.int .i16 1, .bool true]) ∧ w = w' := by
  go_enter Tryz.func95, Tryz.ntmps95
  go_wp2_with (go_at_call 54; refine (indirect_bool _ _).mono ?_; rintro e w' ⟨rfl, rfl⟩)
  go_ret2
  exact ⟨rfl, rfl⟩
set_option maxRecDepth 100000 in
set_option maxHeartbeats 400000 in
theorem num_int16_false (w : World) : Calls Tryz.prog 95 #[.iface 4 (.bool false)] w fun e w' => e = .returned (.tuple #[.int .i16 0, .bool true]) ∧ w = w' := by
  go_enter Tryz.func95, Tryz.ntmps95
  go_wp2_with (go_at_call 54; refine (indirect_bool _ _).mono ?_; rintro e w' ⟨rfl, rfl⟩)
  go_ret2
  exact ⟨rfl, rfl⟩
set_option maxRecDepth 100000 in
set_option maxHeartbeats 400000 in
theorem num_int32_nil (w : World) : Calls Tryz.prog 96 #[.nilIface] w fun e w' => e = .returned (.tuple #[.int .i32 0, .bool true]) ∧ w = w' := by
  go_enter Tryz.func96, Tryz.ntmps96
  go_wp2_with (go_at_call 54; refine (indirect_nil _).mono ?_; rintro e w' ⟨rfl, rfl⟩)
  go_ret2
  exact ⟨rfl, rfl⟩
set_option maxRecDepth 100000 in
set_option maxHeartbeats 400000 in
theorem num_int32_true (w : World) : Calls Tryz.prog 96 #[.iface 4 (.bool true)] w fun e w' => e = .returned (.tuple #[.int .i32 1, .bool true]) ∧ w = w' := by
  go_enter Tryz.func96, Tryz.ntmps96
  go_wp2_with (go_at_call 54; refine (indirect_bool _ _).mono ?_; rintro e w' ⟨rfl, rfl⟩)
  go_ret2
  exact ⟨rfl, rfl⟩
set_option maxRecDepth 100000 in
set_option maxHeartbeats 400000 in
theorem num_int32_false (w : World) : Calls Tryz.prog 96 #[.iface 4 (.bool false)] w fun e w' => e = .returned (.tuple #[.int .i32 0, .bool true]) ∧ w = w' := by
  go_enter Tryz.func96, Tryz.ntmps96
  go_wp2_with (go_at_call 54; refine (indirect_bool _ _).mono ?_; rintro e w' ⟨rfl, rfl⟩)
  go_ret2
  exact ⟨rfl, rfl⟩
set_option maxRecDepth 100000 in
set_option maxHeartbeats 400000 in
theorem num_int64_nil (w : World) : Calls Tryz.prog 97 #[.nilIface] w fun e w' => e = .returned (.tuple #[.int .i64 0, .bool true]) ∧ w = w' := by
  go_enter Tryz.func97, Tryz.ntmps97
  go_wp2_with (go_at_call 54; refine (indirect_nil _).mono ?_; rintro e w' ⟨rfl, rfl⟩)
  go_ret2
  exact ⟨rfl, rfl⟩
set_option maxRecDepth 100000 in
set_option maxHeartbeats 400000 in
theorem num_int64_true (w : World) : Calls Tryz.prog 97 #[.iface 4 (.bool true)] w fun e w' => e = .returned (.tuple #[.int .i64 1, .bool true]) ∧ w = w' := by
  go_enter Tryz.func97, Tryz.ntmps97
  go_wp2_with (go_at_call 54; refine (indirect_bool _ _).mono ?_; rintro e w' ⟨rfl, rfl⟩)
  go_ret2
  exact ⟨rfl, rfl⟩
set_option maxRecDepth 100000 in
set_option maxHeartbeats 400000 in
theorem num_int64_false (w : World) : Calls Tryz.prog 97 #[.iface 4 (.bool false)] w fun e w' => e = .returned (.tuple #[.int .i64 0, .bool true]) ∧ w = w' := by
  go_enter Tryz.func97, Tryz.ntmps97
  go_wp2_with (go_at_call 54; refine (indirect_bool _ _).mono ?_; rintro e w' ⟨rfl, rfl⟩)
  go_ret2
  exact ⟨rfl, rfl⟩
set_option maxRecDepth 100000 in
set_option maxHeartbeats 400000 in
theorem num_int_nil (w : World) : Calls Tryz.prog 98 #[.nilIface] w fun e w' => e = .returned (.tuple #[.int .i64 0, .bool true]) ∧ w = w' := by
  go_enter Tryz.func98, Tryz.ntmps98
  go_wp2_with (go_at_call 54; refine (indirect_nil _).mono ?_; rintro e w' ⟨rfl, rfl⟩)
  go_ret2
  exact ⟨rfl, rfl⟩
set_option maxRecDepth 100000 in
set_option maxHeartbeats 400000 in
theorem num_int_true (w : World) : Calls Tryz.prog 98 #[.iface 4 (.bool true)] w fun e w' => e = .returned (.tuple #[.int .i64 1, .bool true]) ∧ w = w' := by
  go_enter Tryz.func98, Tryz.ntmps98
  go_wp2_with (go_at_call 54; refine (indirect_bool _ _).mono ?_; rintro e w' ⟨rfl, rfl⟩)
  go_ret2
  exact ⟨rfl, rfl⟩
set_option maxRecDepth 100000 in
set_option maxHeartbeats 400000 in
theorem num_int_false (w : World) : Calls Tryz.prog 98 #[.iface 4 (.bool false)] w fun e w' => e = .returned (.tuple #[.int .i64 0, .bool true]) ∧ w = w' := by
  go_enter Tryz.func98, Tryz.ntmps98
  go_wp2_with (go_at_call 54; refine (indirect_bool _ _).mono ?_; rintro e w' ⟨rfl, rfl⟩)
  go_ret2
  exact ⟨rfl, rfl⟩
set_option maxRecDepth 100000 in
set_option maxHeartbeats 400000 in
theorem num_float64_nil (w : World) : Calls Tryz.prog 83 #[.nilIface] w fun e w' => e = .returned (.tuple #[.float .f64 0, .bool true]) ∧ w = w' := by
  go_enter Tryz.func83, Tryz.ntmps83
  go_wp2_with (go_at_call 54; refine (indirect_nil _).mono ?_; rintro e w' ⟨rfl, rfl⟩)
  go_ret2
  exact ⟨rfl, rfl⟩
set_option maxRecDepth 100000 in
set_option maxHeartbeats 400000 in
theorem num_float64_true (w : World) : Calls Tryz.prog 83 #[.iface 4 (.bool true)] w fun e w' => e = .returned (.tuple #[.float .f64 4607182418800017408, .bool true]) ∧ w = w' := by
  go_enter Tryz.func83, Tryz.ntmps83
  go_wp2_with (go_at_call 54; refine (indirect_bool _ _).mono ?_; rintro e w' ⟨rfl, rfl⟩)
  go_ret2
  exact ⟨rfl, rfl⟩
set_option maxRecDepth 100000 in
set_option maxHeartbeats 400000 in
theorem num_float64_false (w : World) : Calls Tryz.prog 83 #[.iface 4 (.bool false)] w fun e w' => e = .returned (.tuple #[.float .f64 0, .bool true]) ∧ w = w' := by
  go_enter Tryz.func83, Tryz.ntmps83
  go_wp2_with (go_at_call 54; refine (indirect_bool _ _).mono ?_; rintro e w' ⟨rfl, rfl⟩)
  go_ret2
  exact ⟨rfl, rfl⟩
end Go.Proofs.YtbaanihpckeiaaaGreatDoor
