/- What impl.value, FormatBool, ParseBool, ToStringE and ToBoolE answer of the values that the two statements hand on: nil, a bool, and the texts true and false; no conditions. -/
import Derived.Test.YtbaanihpckeiaaaGreatDoorProg
import Derived.WalkKit
import Derived.WalkSpells
import Derived.WalkLawsBesides
import Derived.Handy
import Derived.BigQuiet
import Derived.Deep.QuietTactic
import Derived.KernelRfl
import Derived.Test.YtbaanihpckeiaaaGreatDoorD

namespace Go.Proofs.YtbaanihpckeiaaaGreatDoor
open Go.RowKit
/-- What a box of the call's own and a callee that writes nothing that was there leave. -/
theorem below_box {w w1 : World} {o : Obj} (hb : Below (w.alloc o).heap.size (w.alloc o) w1) : Below w.heap.size w w1 :=
  ((Below.refl _ _).alloc (Nat.le_refl _) o).trans (hb.mono (by simp))
set_option maxRecDepth 100000 in
set_option maxHeartbeats 400000 in
theorem value_nil (w : World) : Calls Tryz.prog 23 #[.agg #[.int .i64 0, .int .i64 0, .int .u64 0, .float .f64 0, .string ⟨#[]⟩, .slice none 0 0, .slice none 0 0]] w fun e w' => e = .returned (.nilIface) ∧ Below w.heap.size w w' := by
  go_enter Tryz.func23, Tryz.ntmps23
  go_wp2
  go_ret
  exact ⟨rfl, (Below.refl _ _).alloc (Nat.le_refl _) _⟩
set_option maxRecDepth 100000 in
set_option maxHeartbeats 400000 in
theorem value_true (w : World) : Calls Tryz.prog 23 #[.agg #[.int .i64 1, .int .i64 1, .int .u64 0, .float .f64 0, .string ⟨#[]⟩, .slice none 0 0, .slice none 0 0]] w fun e w' => e = .returned (.iface 4 (.bool true)) ∧ Below w.heap.size w w' := by
  go_enter Tryz.func23, Tryz.ntmps23
  go_wp2
  go_ret
  exact ⟨rfl, (Below.refl _ _).alloc (Nat.le_refl _) _⟩
set_option maxRecDepth 100000 in
set_option maxHeartbeats 400000 in
theorem value_false (w : World) : Calls Tryz.prog 23 #[.agg #[.int .i64 1, .int .i64 0, .int .u64 0, .float .f64 0, .string ⟨#[]⟩, .slice none 0 0, .slice none 0 0]] w fun e w' => e = .returned (.iface 4 (.bool false)) ∧ Below w.heap.size w w' := by
  go_enter Tryz.func23, Tryz.ntmps23
  go_wp2
  go_ret
  exact ⟨rfl, (Below.refl _ _).alloc (Nat.le_refl _) _⟩
set_option maxRecDepth 100000 in
set_option maxHeartbeats 400000 in
theorem value_sfalse (w : World) : Calls Tryz.prog 23 #[.agg #[.int .i64 14, .int .i64 0, .int .u64 0, .float .f64 0, .string ⟨#[102, 97, 108, 115, 101]⟩, .slice none 0 0, .slice none 0 0]] w fun e w' => e = .returned (.iface 9 (.string ⟨#[102, 97, 108, 115, 101]⟩)) ∧ Below w.heap.size w w' := by
  go_enter Tryz.func23, Tryz.ntmps23
  go_wp2
  go_ret
  exact ⟨rfl, (Below.refl _ _).alloc (Nat.le_refl _) _⟩
set_option maxRecDepth 100000 in
set_option maxHeartbeats 400000 in
theorem value_strue (w : World) : Calls Tryz.prog 23 #[.agg #[.int .i64 14, .int .i64 0, .int .u64 0, .float .f64 0, .string ⟨#[116, 114, 117, 101]⟩, .slice none 0 0, .slice none 0 0]] w fun e w' => e = .returned (.iface 9 (.string ⟨#[116, 114, 117, 101]⟩)) ∧ Below w.heap.size w w' := by
  go_enter Tryz.func23, Tryz.ntmps23
  go_wp2
  go_ret
  exact ⟨rfl, (Below.refl _ _).alloc (Nat.le_refl _) _⟩
set_option maxRecDepth 100000 in
set_option maxHeartbeats 400000 in
theorem format_in_true (w : World) : Calls Tryz.prog 87 #[.bool true] w fun e w' => e = .returned (.string ⟨#[116, 114, 117, 101]⟩) ∧ w = w' := by
  go_enter Tryz.func87, Tryz.ntmps87
  go_wp2
  go_ret
  exact ⟨rfl, rfl⟩
set_option maxRecDepth 100000 in
set_option maxHeartbeats 400000 in
theorem format_true (w : World) : Calls Tryz.prog 58 #[.bool true] w fun e w' => e = .returned (.string ⟨#[116, 114, 117, 101]⟩) ∧ w = w' := by
  go_enter Tryz.func58, Tryz.ntmps58
  go_wp2_with (go_at_call 87; refine (format_in_true _).mono ?_; rintro e w' ⟨rfl, rfl⟩)
  go_ret
  exact ⟨rfl, rfl⟩
set_option maxRecDepth 100000 in
set_option maxHeartbeats 400000 in
theorem parse_in_true (w : World) : Calls Tryz.prog 85 #[.string ⟨#[116, 114, 117, 101]⟩] w fun e w' => e = .returned (.tuple #[.bool true, .nilIface]) ∧ w = w' := by
  go_enter Tryz.func85, Tryz.ntmps85
  go_wp2
  go_ret2
  exact ⟨rfl, rfl⟩
set_option maxRecDepth 100000 in
set_option maxHeartbeats 400000 in
theorem parse_true (w : World) : Calls Tryz.prog 55 #[.string ⟨#[116, 114, 117, 101]⟩] w fun e w' => e = .returned (.tuple #[.bool true, .nilIface]) ∧ w = w' := by
  go_enter Tryz.func55, Tryz.ntmps55
  go_wp2_with (go_at_call 85; refine (parse_in_true _).mono ?_; rintro e w' ⟨rfl, rfl⟩)
  go_ret2
  exact ⟨rfl, rfl⟩
set_option maxRecDepth 100000 in
set_option maxHeartbeats 400000 in
theorem to_string_true (w : World) : Calls Tryz.prog 25 #[.iface 4 (.bool true)] w fun e w' => e = .returned (.tuple #[.string ⟨#[116, 114, 117, 101]⟩, .nilIface]) ∧ w = w' := by
  go_enter Tryz.func25, Tryz.ntmps25
  go_wp2_with (go_at_call 58; refine (format_true _).mono ?_; rintro e w' ⟨rfl, rfl⟩)
  go_ret2
  exact ⟨rfl, rfl⟩
set_option maxRecDepth 100000 in
set_option maxHeartbeats 400000 in
theorem to_bool_strue (w : World) : Calls Tryz.prog 24 #[.iface 9 (.string ⟨#[116, 114, 117, 101]⟩)] w fun e w' => e = .returned (.tuple #[.bool true, .nilIface]) ∧ w = w' := by
  go_enter Tryz.func24, Tryz.ntmps24
  go_wp2_with (first | (go_at_call 54; refine (indirect_string _ _).mono ?_; rintro e w' ⟨rfl, rfl⟩) | (go_at_call 55; refine (parse_true _).mono ?_; rintro e w' ⟨rfl, rfl⟩))
  go_ret2
  exact ⟨rfl, rfl⟩
set_option maxRecDepth 100000 in
set_option maxHeartbeats 400000 in
theorem format_in_false (w : World) : Calls Tryz.prog 87 #[.bool false] w fun e w' => e = .returned (.string ⟨#[102, 97, 108, 115, 101]⟩) ∧ w = w' := by
  go_enter Tryz.func87, Tryz.ntmps87
  go_wp2
  go_ret
  exact ⟨rfl, rfl⟩
set_option maxRecDepth 100000 in
set_option maxHeartbeats 400000 in
theorem format_false (w : World) : Calls Tryz.prog 58 #[.bool false] w fun e w' => e = .returned (.string ⟨#[102, 97, 108, 115, 101]⟩) ∧ w = w' := by
  go_enter Tryz.func58, Tryz.ntmps58
  go_wp2_with (go_at_call 87; refine (format_in_false _).mono ?_; rintro e w' ⟨rfl, rfl⟩)
  go_ret
  exact ⟨rfl, rfl⟩
set_option maxRecDepth 100000 in
set_option maxHeartbeats 400000 in
theorem parse_in_false (w : World) : Calls Tryz.prog 85 #[.string ⟨#[102, 97, 108, 115, 101]⟩] w fun e w' => e = .returned (.tuple #[.bool false, .nilIface]) ∧ w = w' := by
  go_enter Tryz.func85, Tryz.ntmps85
  go_wp2
  go_ret2
  exact ⟨rfl, rfl⟩
set_option maxRecDepth 100000 in
set_option maxHeartbeats 400000 in
theorem parse_false (w : World) : Calls Tryz.prog 55 #[.string ⟨#[102, 97, 108, 115, 101]⟩] w fun e w' => e = .returned (.tuple #[.bool false, .nilIface]) ∧ w = w' := by
  go_enter Tryz.func55, Tryz.ntmps55
  go_wp2_with (go_at_call 85; refine (parse_in_false _).mono ?_; rintro e w' ⟨rfl, rfl⟩)
  go_ret2
  exact ⟨rfl, rfl⟩
set_option maxRecDepth 100000 in
set_option maxHeartbeats 400000 in
theorem to_string_false (w : World) : Calls Tryz.prog 25 #[.iface 4 (.bool false)] w fun e w' => e = .returned (.tuple #[.string ⟨#[102, 97, 108, 115, 101]⟩, .nilIface]) ∧ w = w' := by
  go_enter Tryz.func25, Tryz.ntmps25
  go_wp2_with (go_at_call 58; refine (format_false _).mono ?_; rintro e w' ⟨rfl, rfl⟩)
  go_ret2
  exact ⟨rfl, rfl⟩
set_option maxRecDepth 100000 in
set_option maxHeartbeats 400000 in
theorem to_bool_sfalse (w : World) : Calls Tryz.prog 24 #[.iface 9 (.string ⟨#[102, 97, 108, 115, 101]⟩)] w fun e w' => e = .returned (.tuple #[.bool false, .nilIface]) ∧ w = w' := by
  go_enter Tryz.func24, Tryz.ntmps24
  go_wp2_with (first | (go_at_call 54; refine (indirect_string _ _).mono ?_; rintro e w' ⟨rfl, rfl⟩) | (go_at_call 55; refine (parse_false _).mono ?_; rintro e w' ⟨rfl, rfl⟩))
  go_ret2
  exact ⟨rfl, rfl⟩
set_option maxRecDepth 100000 in
set_option maxHeartbeats 400000 in
theorem to_string_nil (w : World) : Calls Tryz.prog 25 #[.nilIface] w fun e w' => e = .returned (.tuple #[.string ⟨#[]⟩, .nilIface]) ∧ w = w' := by
  go_enter Tryz.func25, Tryz.ntmps25
  go_wp2
  go_ret2
  exact ⟨rfl, rfl⟩
set_option maxRecDepth 100000 in
set_option maxHeartbeats 400000 in
theorem to_bool_nil (w : World) : Calls Tryz.prog 24 #[.nilIface] w fun e w' => e = .returned (.tuple #[.bool false, .nilIface]) ∧ w = w' := by
  go_enter Tryz.func24, Tryz.ntmps24
  go_wp2_with (go_at_call 54; refine (indirect_nil _).mono ?_; rintro e w' ⟨rfl, rfl⟩)
  go_ret2
  exact ⟨rfl, rfl⟩
end Go.Proofs.YtbaanihpckeiaaaGreatDoor
