/- What toUnsignedNumber at each uint type answers of nil and of a bool: the number 0 or 1, true and true; no conditions. -/
import Derived.Test.YtbaanihpckeiaaaGreatDoorProg
import Derived.WalkKit
import Derived.WalkSpells
import Derived.WalkLawsBesides
import Derived.Handy
import Derived.BigQuiet
import Derived.Deep.QuietTactic
import Derived.KernelRfl
import Derived.Test.YtbaanihpckeiaaaGreatDoorB

namespace Go.Proofs.YtbaanihpckeiaaaGreatDoor
open Go.RowKit
set_option maxRecDepth 100000 in
set_option maxHeartbeats 400000 in
theorem num_uint8_nil (w : World) : Calls Tryz.prog 99 #[.nilIface] w fun e w' => e = .returned (.tuple #[.int .u8 0, .bool true, .bool true]) ∧ w = w' := by
  go_enter Tryz.func99, Tryz.ntmps99
  go_wp2_with (go_at_call 54; refine (indirect_nil _).mono ?_; rintro e w' ⟨rfl, rfl⟩)
  go_ret3
  exact ⟨rfl, rfl⟩
set_option maxRecDepth 100000 in
set_option maxHeartbeats 400000 in
theorem num_uint8_true (w : World) : Calls Tryz.prog 99 #[.iface 4 (.bool true)] w fun e w' => e = .returned (.tuple #[.int .u8 1, .bool true, .bool true]) ∧ w = w' := by
  go_enter Tryz.func99, Tryz.ntmps99
  go_wp2_with (go_at_call 54; refine (indirect_bool _ _).mono ?_; rintro e w' ⟨rfl, rfl⟩)
  go_ret3
  exact ⟨rfl, rfl⟩
set_option maxRecDepth 100000 in
set_option maxHeartbeats 400000 in
theorem num_uint8_false (w : World) : Calls Tryz.prog 99 #[.iface 4 (.bool false)] w fun e w' => e = .returned (.tuple #[.int .u8 0, .bool true, .bool true]) ∧ w = w' := by
  go_enter Tryz.func99, Tryz.ntmps99
  go_wp2_with (go_at_call 54; refine (indirect_bool _ _).mono ?_; rintro e w' ⟨rfl, rfl⟩)
  go_ret3
  exact ⟨rfl, rfl⟩
set_option maxRecDepth 100000 in
set_option maxHeartbeats 400000 in
theorem num_uint16_nil (w : World) : Calls Tryz.prog 102 #[.nilIface] w fun e w' => e = .returned (.tuple #[.int .u16 0, .bool true, .bool true]) ∧ w = w' := by
  go_enter Tryz.func102, Tryz.ntmps102
  go_wp2_with (go_at_call 54; refine (indirect_nil _).mono ?_; rintro e w' ⟨rfl, rfl⟩)
  go_ret3
  exact ⟨rfl, rfl⟩
set_option maxRecDepth 100000 in
set_option maxHeartbeats 400000 in
theorem num_uint16_true (w : World) : Calls Tryz.prog 102 #[.iface 4 (.bool true)] w fun e w' => e = .returned (.tuple #[.int .u16 1, .bool true, .bool true]) ∧ w = w' := by
  go_enter Tryz.func102, Tryz.ntmps102
  go_wp2_with (go_at_call 54; refine (indirect_bool _ _).mono ?_; rintro e w' ⟨rfl, rfl⟩)
  go_ret3
  exact ⟨rfl, rfl⟩
set_option maxRecDepth 100000 in
set_option maxHeartbeats 400000 in
theorem num_uint16_false (w : World) : Calls Tryz.prog 102 #[.iface 4 (.bool false)] w fun e w' => e = .returned (.tuple #[.int .u16 0, .bool true, .bool true]) ∧ w = w' := by
  go_enter Tryz.func102, Tryz.ntmps102
  go_wp2_with (go_at_call 54; refine (indirect_bool _ _).mono ?_; rintro e w' ⟨rfl, rfl⟩)
  go_ret3
  exact ⟨rfl, rfl⟩
set_option maxRecDepth 100000 in
set_option maxHeartbeats 400000 in
theorem num_uint32_nil (w : World) : Calls Tryz.prog 103 #[.nilIface] w fun e w' => e = .returned (.tuple #[.int .u32 0, .bool true, .bool true]) ∧ w = w' := by
  go_enter Tryz.func103, Tryz.ntmps103
  go_wp2_with (go_at_call 54; refine (indirect_nil _).mono ?_; rintro e w' ⟨rfl, rfl⟩)
  go_ret3
  exact ⟨rfl, rfl⟩
set_option maxRecDepth 100000 in
set_option maxHeartbeats 400000 in
theorem num_uint32_true (w : World) : Calls Tryz.prog 103 #[.iface 4 (.bool true)] w fun e w' => e = .returned (.tuple #[.int .u32 1, .bool true, .bool true]) ∧ w = w' := by
  go_enter Tryz.func103, Tryz.ntmps103
  go_wp2_with (go_at_call 54; refine (indirect_bool _ _).mono ?_; rintro e w' ⟨rfl, rfl⟩)
  go_ret3
  exact ⟨rfl, rfl⟩
set_option maxRecDepth 100000 in
set_option maxHeartbeats 400000 in
theorem num_uint32_false (w : World) : Calls Tryz.prog 103 #[.iface 4 (.bool false)] w fun e w' => e = .returned (.tuple #[.int .u32 0, .bool true, .bool true]) ∧ w = w' := by
  go_enter Tryz.func103, Tryz.ntmps103
  go_wp2_with (go_at_call 54; refine (indirect_bool _ _).mono ?_; rintro e w' ⟨rfl, rfl⟩)
  go_ret3
  exact ⟨rfl, rfl⟩
set_option maxRecDepth 100000 in
set_option maxHeartbeats 400000 in
theorem num_uint64_nil (w : World) : Calls Tryz.prog 104 #[.nilIface] w fun e w' => e = .returned (.tuple #[.int .u64 0, .bool true, .bool true]) ∧ w = w' := by
  go_enter Tryz.func104, Tryz.ntmps104
  go_wp2_with (go_at_call 54; refine (indirect_nil _).mono ?_; rintro e w' ⟨rfl, rfl⟩)
  go_ret3
  exact ⟨rfl, rfl⟩
set_option maxRecDepth 100000 in
set_option maxHeartbeats 400000 in
theorem num_uint64_true (w : World) : Calls Tryz.prog 104 #[.iface 4 (.bool true)] w fun e w' => e = .returned (.tuple #[.int .u64 1, .bool true, .bool true]) ∧ w = w' := by
  go_enter Tryz.func104, Tryz.ntmps104
  go_wp2_with (go_at_call 54; refine (indirect_bool _ _).mono ?_; rintro e w' ⟨rfl, rfl⟩)
  go_ret3
  exact ⟨rfl, rfl⟩
set_option maxRecDepth 100000 in
set_option maxHeartbeats 400000 in
theorem num_uint64_false (w : World) : Calls Tryz.prog 104 #[.iface 4 (.bool false)] w fun e w' => e = .returned (.tuple #[.int .u64 0, .bool true, .bool true]) ∧ w = w' := by
  go_enter Tryz.func104, Tryz.ntmps104
  go_wp2_with (go_at_call 54; refine (indirect_bool _ _).mono ?_; rintro e w' ⟨rfl, rfl⟩)
  go_ret3
  exact ⟨rfl, rfl⟩
set_option maxRecDepth 100000 in
set_option maxHeartbeats 400000 in
theorem num_uint_nil (w : World) : Calls Tryz.prog 105 #[.nilIface] w fun e w' => e = .returned (.tuple #[.int .u64 0, .bool true, .bool true]) ∧ w = w' := by
  go_enter Tryz.func105, Tryz.ntmps105
  go_wp2_with (go_at_call 54; refine (indirect_nil _).mono ?_; rintro e w' ⟨rfl, rfl⟩)
  go_ret3
  exact ⟨rfl, rfl⟩
set_option maxRecDepth 100000 in
set_option maxHeartbeats 400000 in
theorem num_uint_true (w : World) : Calls Tryz.prog 105 #[.iface 4 (.bool true)] w fun e w' => e = .returned (.tuple #[.int .u64 1, .bool true, .bool true]) ∧ w = w' := by
  go_enter Tryz.func105, Tryz.ntmps105
  go_wp2_with (go_at_call 54; refine (indirect_bool _ _).mono ?_; rintro e w' ⟨rfl, rfl⟩)
  go_ret3
  exact ⟨rfl, rfl⟩
set_option maxRecDepth 100000 in
set_option maxHeartbeats 400000 in
theorem num_uint_false (w : World) : Calls Tryz.prog 105 #[.iface 4 (.bool false)] w fun e w' => e = .returned (.tuple #[.int .u64 0, .bool true, .bool true]) ∧ w = w' := by
  go_enter Tryz.func105, Tryz.ntmps105
  go_wp2_with (go_at_call 54; refine (indirect_bool _ _).mono ?_; rintro e w' ⟨rfl, rfl⟩)
  go_ret3
  exact ⟨rfl, rfl⟩
end Go.Proofs.YtbaanihpckeiaaaGreatDoor
