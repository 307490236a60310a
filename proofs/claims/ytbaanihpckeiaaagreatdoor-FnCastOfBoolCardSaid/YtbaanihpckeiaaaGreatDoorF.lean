/- What the doors of impl answer of nil, of a bool, and of the texts true and false: the value, and that there is no error; nothing that was there is written; no conditions. -/
import Derived.Test.YtbaanihpckeiaaaGreatDoorProg
import Derived.WalkKit
import Derived.WalkSpells
import Derived.WalkLawsBesides
import Derived.Handy
import Derived.BigQuiet
import Derived.Deep.QuietTactic
import Derived.KernelRfl
import Derived.Test.YtbaanihpckeiaaaGreatDoorE

namespace Go.Proofs.YtbaanihpckeiaaaGreatDoor
open Go.RowKit
set_option maxRecDepth 100000 in
set_option maxHeartbeats 400000 in
theorem door_int8_nil (w : World) : Calls Tryz.prog 12 #[.agg #[.int .i64 0, .int .i64 0, .int .u64 0, .float .f64 0, .string ⟨#[]⟩, .slice none 0 0, .slice none 0 0]] w fun e w' => e = .returned (.tuple #[.int .i64 0, .bool true]) ∧ Below w.heap.size w w' := by
  go_enter Tryz.func12, Tryz.ntmps12
  go_wp2_with (first | (go_at_call 23; refine (value_nil _).mono ?_; rintro e w1 ⟨rfl, hb⟩) | (go_at_call 26; refine (to_int8_nil _).mono ?_; rintro e w' ⟨rfl, rfl⟩))
  go_quiet (fail)
  go_wp2
  go_ret2
  exact ⟨rfl, below_drewN (below_box hb) _⟩
set_option maxRecDepth 100000 in
set_option maxHeartbeats 400000 in
theorem door_int8_true (w : World) : Calls Tryz.prog 12 #[.agg #[.int .i64 1, .int .i64 1, .int .u64 0, .float .f64 0, .string ⟨#[]⟩, .slice none 0 0, .slice none 0 0]] w fun e w' => e = .returned (.tuple #[.int .i64 1, .bool true]) ∧ Below w.heap.size w w' := by
  go_enter Tryz.func12, Tryz.ntmps12
  go_wp2_with (first | (go_at_call 23; refine (value_true _).mono ?_; rintro e w1 ⟨rfl, hb⟩) | (go_at_call 26; refine (to_int8_true _).mono ?_; rintro e w' ⟨rfl, rfl⟩))
  go_quiet (fail)
  go_wp2
  go_ret2
  exact ⟨rfl, below_drewN (below_box hb) _⟩
set_option maxRecDepth 100000 in
set_option maxHeartbeats 400000 in
theorem door_int8_false (w : World) : Calls Tryz.prog 12 #[.agg #[.int .i64 1, .int .i64 0, .int .u64 0, .float .f64 0, .string ⟨#[]⟩, .slice none 0 0, .slice none 0 0]] w fun e w' => e = .returned (.tuple #[.int .i64 0, .bool true]) ∧ Below w.heap.size w w' := by
  go_enter Tryz.func12, Tryz.ntmps12
  go_wp2_with (first | (go_at_call 23; refine (value_false _).mono ?_; rintro e w1 ⟨rfl, hb⟩) | (go_at_call 26; refine (to_int8_false _).mono ?_; rintro e w' ⟨rfl, rfl⟩))
  go_quiet (fail)
  go_wp2
  go_ret2
  exact ⟨rfl, below_drewN (below_box hb) _⟩
set_option maxRecDepth 100000 in
set_option maxHeartbeats 400000 in
theorem door_int16_nil (w : World) : Calls Tryz.prog 13 #[.agg #[.int .i64 0, .int .i64 0, .int .u64 0, .float .f64 0, .string ⟨#[]⟩, .slice none 0 0, .slice none 0 0]] w fun e w' => e = .returned (.tuple #[.int .i64 0, .bool true]) ∧ Below w.heap.size w w' := by
  go_enter Tryz.func13, Tryz.ntmps13
  go_wp2_with (first | (go_at_call 23; refine (value_nil _).mono ?_; rintro e w1 ⟨rfl, hb⟩) | (go_at_call 27; refine (to_int16_nil _).mono ?_; rintro e w' ⟨rfl, rfl⟩))
  go_quiet (fail)
  go_wp2
  go_ret2
  exact ⟨rfl, below_drewN (below_box hb) _⟩
set_option maxRecDepth 100000 in
set_option maxHeartbeats 400000 in
theorem door_int16_true (w : World) : Calls Tryz.prog 13 #[.agg #[.int .i64 1, .int .i64 1, .int .u64 0, .float .f64 0, .string ⟨#[]⟩, .slice none 0 0, .slice none 0 0]] w fun e w' => e = .returned (.tuple #[.int .i64 1, .bool true]) ∧ Below w.heap.size w w' := by
  go_enter Tryz.func13, Tryz.ntmps13
  go_wp2_with (first | (go_at_call 23; refine (value_true _).mono ?_; rintro e w1 ⟨rfl, hb⟩) | (go_at_call 27; refine (to_int16_true _).mono ?_; rintro e w' ⟨rfl, rfl⟩))
  go_quiet (fail)
  go_wp2
  go_ret2
  exact ⟨rfl, below_drewN (below_box hb) _⟩
set_option maxRecDepth 100000 in
set_option maxHeartbeats 400000 in
theorem door_int16_false (w : World) : Calls Tryz.prog 13 #[.agg #[.int .i64 1, .int .i64 0, .int .u64 0, .float .f64 0, .string ⟨#[]⟩, .slice none 0 0, .slice none 0 0]] w fun e w' => e = .returned (.tuple #[.int .i64 0, .bool true]) ∧ Below w.heap.size w w' := by
  go_enter Tryz.func13, Tryz.ntmps13
  go_wp2_with (first | (go_at_call 23; refine (value_false _).mono ?_; rintro e w1 ⟨rfl, hb⟩) | (go_at_call 27; refine (to_int16_false _).mono ?_; rintro e w' ⟨rfl, rfl⟩))
  go_quiet (fail)
  go_wp2
  go_ret2
  exact ⟨rfl, below_drewN (below_box hb) _⟩
set_option maxRecDepth 100000 in
set_option maxHeartbeats 400000 in
theorem door_int32_nil (w : World) : Calls Tryz.prog 14 #[.agg #[.int .i64 0, .int .i64 0, .int .u64 0, .float .f64 0, .string ⟨#[]⟩, .slice none 0 0, .slice none 0 0]] w fun e w' => e = .returned (.tuple #[.int .i64 0, .bool true]) ∧ Below w.heap.size w w' := by
  go_enter Tryz.func14, Tryz.ntmps14
  go_wp2_with (first | (go_at_call 23; refine (value_nil _).mono ?_; rintro e w1 ⟨rfl, hb⟩) | (go_at_call 28; refine (to_int32_nil _).mono ?_; rintro e w' ⟨rfl, rfl⟩))
  go_quiet (fail)
  go_wp2
  go_ret2
  exact ⟨rfl, below_drewN (below_box hb) _⟩
set_option maxRecDepth 100000 in
set_option maxHeartbeats 400000 in
theorem door_int32_true (w : World) : Calls Tryz.prog 14 #[.agg #[.int .i64 1, .int .i64 1, .int .u64 0, .float .f64 0, .string ⟨#[]⟩, .slice none 0 0, .slice none 0 0]] w fun e w' => e = .returned (.tuple #[.int .i64 1, .bool true]) ∧ Below w.heap.size w w' := by
  go_enter Tryz.func14, Tryz.ntmps14
  go_wp2_with (first | (go_at_call 23; refine (value_true _).mono ?_; rintro e w1 ⟨rfl, hb⟩) | (go_at_call 28; refine (to_int32_true _).mono ?_; rintro e w' ⟨rfl, rfl⟩))
  go_quiet (fail)
  go_wp2
  go_ret2
  exact ⟨rfl, below_drewN (below_box hb) _⟩
set_option maxRecDepth 100000 in
set_option maxHeartbeats 400000 in
theorem door_int32_false (w : World) : Calls Tryz.prog 14 #[.agg #[.int .i64 1, .int .i64 0, .int .u64 0, .float .f64 0, .string ⟨#[]⟩, .slice none 0 0, .slice none 0 0]] w fun e w' => e = .returned (.tuple #[.int .i64 0, .bool true]) ∧ Below w.heap.size w w' := by
  go_enter Tryz.func14, Tryz.ntmps14
  go_wp2_with (first | (go_at_call 23; refine (value_false _).mono ?_; rintro e w1 ⟨rfl, hb⟩) | (go_at_call 28; refine (to_int32_false _).mono ?_; rintro e w' ⟨rfl, rfl⟩))
  go_quiet (fail)
  go_wp2
  go_ret2
  exact ⟨rfl, below_drewN (below_box hb) _⟩
set_option maxRecDepth 100000 in
set_option maxHeartbeats 400000 in
theorem door_int64_nil (w : World) : Calls Tryz.prog 15 #[.agg #[.int .i64 0, .int .i64 0, .int .u64 0, .float .f64 0, .string ⟨#[]⟩, .slice none 0 0, .slice none 0 0]] w fun e w' => e = .returned (.tuple #[.int .i64 0, .bool true]) ∧ Below w.heap.size w w' := by
  go_enter Tryz.func15, Tryz.ntmps15
  go_wp2_with (first | (go_at_call 23; refine (value_nil _).mono ?_; rintro e w1 ⟨rfl, hb⟩) | (go_at_call 29; refine (to_int64_nil _).mono ?_; rintro e w' ⟨rfl, rfl⟩))
  go_quiet (fail)
  go_wp2
  go_ret2
  exact ⟨rfl, below_drewN (below_box hb) _⟩
set_option maxRecDepth 100000 in
set_option maxHeartbeats 400000 in
theorem door_int64_true (w : World) : Calls Tryz.prog 15 #[.agg #[.int .i64 1, .int .i64 1, .int .u64 0, .float .f64 0, .string ⟨#[]⟩, .slice none 0 0, .slice none 0 0]] w fun e w' => e = .returned (.tuple #[.int .i64 1, .bool true]) ∧ Below w.heap.size w w' := by
  go_enter Tryz.func15, Tryz.ntmps15
  go_wp2_with (first | (go_at_call 23; refine (value_true _).mono ?_; rintro e w1 ⟨rfl, hb⟩) | (go_at_call 29; refine (to_int64_true _).mono ?_; rintro e w' ⟨rfl, rfl⟩))
  go_quiet (fail)
  go_wp2
  go_ret2
  exact ⟨rfl, below_drewN (below_box hb) _⟩
set_option maxRecDepth 100000 in
set_option maxHeartbeats 400000 in
theorem door_int64_false (w : World) : Calls Tryz.prog 15 #[.agg #[.int .i64 1, .int .i64 0, .int .u64 0, .float .f64 0, .string ⟨#[]⟩, .slice none 0 0, .slice none 0 0]] w fun e w' => e = .returned (.tuple #[.int .i64 0, .bool true]) ∧ Below w.heap.size w w' := by
  go_enter Tryz.func15, Tryz.ntmps15
  go_wp2_with (first | (go_at_call 23; refine (value_false _).mono ?_; rintro e w1 ⟨rfl, hb⟩) | (go_at_call 29; refine (to_int64_false _).mono ?_; rintro e w' ⟨rfl, rfl⟩))
  go_quiet (fail)
  go_wp2
  go_ret2
  exact ⟨rfl, below_drewN (below_box hb) _⟩
set_option maxRecDepth 100000 in
set_option maxHeartbeats 400000 in
theorem door_int_nil (w : World) : Calls Tryz.prog 16 #[.agg #[.int .i64 0, .int .i64 0, .int .u64 0, .float .f64 0, .string ⟨#[]⟩, .slice none 0 0, .slice none 0 0]] w fun e w' => e = .returned (.tuple #[.int .i64 0, .bool true]) ∧ Below w.heap.size w w' := by
  go_enter Tryz.func16, Tryz.ntmps16
  go_wp2_with (first | (go_at_call 23; refine (value_nil _).mono ?_; rintro e w1 ⟨rfl, hb⟩) | (go_at_call 30; refine (to_int_nil _).mono ?_; rintro e w' ⟨rfl, rfl⟩))
  go_quiet (fail)
  go_wp2
  go_ret2
  exact ⟨rfl, below_drewN (below_box hb) _⟩
set_option maxRecDepth 100000 in
set_option maxHeartbeats 400000 in
theorem door_int_true (w : World) : Calls Tryz.prog 16 #[.agg #[.int .i64 1, .int .i64 1, .int .u64 0, .float .f64 0, .string ⟨#[]⟩, .slice none 0 0, .slice none 0 0]] w fun e w' => e = .returned (.tuple #[.int .i64 1, .bool true]) ∧ Below w.heap.size w w' := by
  go_enter Tryz.func16, Tryz.ntmps16
  go_wp2_with (first | (go_at_call 23; refine (value_true _).mono ?_; rintro e w1 ⟨rfl, hb⟩) | (go_at_call 30; refine (to_int_true _).mono ?_; rintro e w' ⟨rfl, rfl⟩))
  go_quiet (fail)
  go_wp2
  go_ret2
  exact ⟨rfl, below_drewN (below_box hb) _⟩
set_option maxRecDepth 100000 in
set_option maxHeartbeats 400000 in
theorem door_int_false (w : World) : Calls Tryz.prog 16 #[.agg #[.int .i64 1, .int .i64 0, .int .u64 0, .float .f64 0, .string ⟨#[]⟩, .slice none 0 0, .slice none 0 0]] w fun e w' => e = .returned (.tuple #[.int .i64 0, .bool true]) ∧ Below w.heap.size w w' := by
  go_enter Tryz.func16, Tryz.ntmps16
  go_wp2_with (first | (go_at_call 23; refine (value_false _).mono ?_; rintro e w1 ⟨rfl, hb⟩) | (go_at_call 30; refine (to_int_false _).mono ?_; rintro e w' ⟨rfl, rfl⟩))
  go_quiet (fail)
  go_wp2
  go_ret2
  exact ⟨rfl, below_drewN (below_box hb) _⟩
set_option maxRecDepth 100000 in
set_option maxHeartbeats 400000 in
theorem door_uint8_nil (w : World) : Calls Tryz.prog 17 #[.agg #[.int .i64 0, .int .i64 0, .int .u64 0, .float .f64 0, .string ⟨#[]⟩, .slice none 0 0, .slice none 0 0]] w fun e w' => e = .returned (.tuple #[.int .u64 0, .bool true]) ∧ Below w.heap.size w w' := by
  go_enter Tryz.func17, Tryz.ntmps17
  go_wp2_with (first | (go_at_call 23; refine (value_nil _).mono ?_; rintro e w1 ⟨rfl, hb⟩) | (go_at_call 31; refine (to_uint8_nil _).mono ?_; rintro e w' ⟨rfl, rfl⟩))
  go_quiet (fail)
  go_wp2
  go_ret2
  exact ⟨rfl, below_drewN (below_box hb) _⟩
set_option maxRecDepth 100000 in
set_option maxHeartbeats 400000 in
theorem door_uint8_true (w : World) : Calls Tryz.prog 17 #[.agg #[.int .i64 1, .int .i64 1, .int .u64 0, .float .f64 0, .string ⟨#[]⟩, .slice none 0 0, .slice none 0 0]] w fun e w' => e = .returned (.tuple #[.int .u64 1, .bool true]) ∧ Below w.heap.size w w' := by
  go_enter Tryz.func17, Tryz.ntmps17
  go_wp2_with (first | (go_at_call 23; refine (value_true _).mono ?_; rintro e w1 ⟨rfl, hb⟩) | (go_at_call 31; refine (to_uint8_true _).mono ?_; rintro e w' ⟨rfl, rfl⟩))
  go_quiet (fail)
  go_wp2
  go_ret2
  exact ⟨rfl, below_drewN (below_box hb) _⟩
set_option maxRecDepth 100000 in
set_option maxHeartbeats 400000 in
theorem door_uint8_false (w : World) : Calls Tryz.prog 17 #[.agg #[.int .i64 1, .int .i64 0, .int .u64 0, .float .f64 0, .string ⟨#[]⟩, .slice none 0 0, .slice none 0 0]] w fun e w' => e = .returned (.tuple #[.int .u64 0, .bool true]) ∧ Below w.heap.size w w' := by
  go_enter Tryz.func17, Tryz.ntmps17
  go_wp2_with (first | (go_at_call 23; refine (value_false _).mono ?_; rintro e w1 ⟨rfl, hb⟩) | (go_at_call 31; refine (to_uint8_false _).mono ?_; rintro e w' ⟨rfl, rfl⟩))
  go_quiet (fail)
  go_wp2
  go_ret2
  exact ⟨rfl, below_drewN (below_box hb) _⟩
set_option maxRecDepth 100000 in
set_option maxHeartbeats 400000 in
theorem door_uint16_nil (w : World) : Calls Tryz.prog 18 #[.agg #[.int .i64 0, .int .i64 0, .int .u64 0, .float .f64 0, .string ⟨#[]⟩, .slice none 0 0, .slice none 0 0]] w fun e w' => e = .returned (.tuple #[.int .u64 0, .bool true]) ∧ Below w.heap.size w w' := by
  go_enter Tryz.func18, Tryz.ntmps18
  go_wp2_with (first | (go_at_call 23; refine (value_nil _).mono ?_; rintro e w1 ⟨rfl, hb⟩) | (go_at_call 32; refine (to_uint16_nil _).mono ?_; rintro e w' ⟨rfl, rfl⟩))
  go_quiet (fail)
  go_wp2
  go_ret2
  exact ⟨rfl, below_drewN (below_box hb) _⟩
set_option maxRecDepth 100000 in
set_option maxHeartbeats 400000 in
theorem door_uint16_true (w : World) : Calls Tryz.prog 18 #[.agg #[.int .i64 1, .int .i64 1, .int .u64 0, .float .f64 0, .string ⟨#[]⟩, .slice none 0 0, .slice none 0 0]] w fun e w' => e = .returned (.tuple #[.int .u64 1, .bool true]) ∧ Below w.heap.size w w' := by
  go_enter Tryz.func18, Tryz.ntmps18
  go_wp2_with (first | (go_at_call 23; refine (value_true _).mono ?_; rintro e w1 ⟨rfl, hb⟩) | (go_at_call 32; refine (to_uint16_true _).mono ?_; rintro e w' ⟨rfl, rfl⟩))
  go_quiet (fail)
  go_wp2
  go_ret2
  exact ⟨rfl, below_drewN (below_box hb) _⟩
set_option maxRecDepth 100000 in
set_option maxHeartbeats 400000 in
theorem door_uint16_false (w : World) : Calls Tryz.prog 18 #[.agg #[.int .i64 1, .int .i64 0, .int .u64 0, .float .f64 0, .string ⟨#[]⟩, .slice none 0 0, .slice none 0 0]] w fun e w' => e = .returned (.tuple #[.int .u64 0, .bool true]) ∧ Below w.heap.size w w' := by
  go_enter Tryz.func18, Tryz.ntmps18
  go_wp2_with (first | (go_at_call 23; refine (value_false _).mono ?_; rintro e w1 ⟨rfl, hb⟩) | (go_at_call 32; refine (to_uint16_false _).mono ?_; rintro e w' ⟨rfl, rfl⟩))
  go_quiet (fail)
  go_wp2
  go_ret2
  exact ⟨rfl, below_drewN (below_box hb) _⟩
set_option maxRecDepth 100000 in
set_option maxHeartbeats 400000 in
theorem door_uint32_nil (w : World) : Calls Tryz.prog 19 #[.agg #[.int .i64 0, .int .i64 0, .int .u64 0, .float .f64 0, .string ⟨#[]⟩, .slice none 0 0, .slice none 0 0]] w fun e w' => e = .returned (.tuple #[.int .u64 0, .bool true]) ∧ Below w.heap.size w w' := by
  go_enter Tryz.func19, Tryz.ntmps19
  go_wp2_with (first | (go_at_call 23; refine (value_nil _).mono ?_; rintro e w1 ⟨rfl, hb⟩) | (go_at_call 33; refine (to_uint32_nil _).mono ?_; rintro e w' ⟨rfl, rfl⟩))
  go_quiet (fail)
  go_wp2
  go_ret2
  exact ⟨rfl, below_drewN (below_box hb) _⟩
set_option maxRecDepth 100000 in
set_option maxHeartbeats 400000 in
theorem door_uint32_true (w : World) : Calls Tryz.prog 19 #[.agg #[.int .i64 1, .int .i64 1, .int .u64 0, .float .f64 0, .string ⟨#[]⟩, .slice none 0 0, .slice none 0 0]] w fun e w' => e = .returned (.tuple #[.int .u64 1, .bool true]) ∧ Below w.heap.size w w' := by
  go_enter Tryz.func19, Tryz.ntmps19
  go_wp2_with (first | (go_at_call 23; refine (value_true _).mono ?_; rintro e w1 ⟨rfl, hb⟩) | (go_at_call 33; refine (to_uint32_true _).mono ?_; rintro e w' ⟨rfl, rfl⟩))
  go_quiet (fail)
  go_wp2
  go_ret2
  exact ⟨rfl, below_drewN (below_box hb) _⟩
set_option maxRecDepth 100000 in
set_option maxHeartbeats 400000 in
theorem door_uint32_false (w : World) : Calls Tryz.prog 19 #[.agg #[.int .i64 1, .int .i64 0, .int .u64 0, .float .f64 0, .string ⟨#[]⟩, .slice none 0 0, .slice none 0 0]] w fun e w' => e = .returned (.tuple #[.int .u64 0, .bool true]) ∧ Below w.heap.size w w' := by
  go_enter Tryz.func19, Tryz.ntmps19
  go_wp2_with (first | (go_at_call 23; refine (value_false _).mono ?_; rintro e w1 ⟨rfl, hb⟩) | (go_at_call 33; refine (to_uint32_false _).mono ?_; rintro e w' ⟨rfl, rfl⟩))
  go_quiet (fail)
  go_wp2
  go_ret2
  exact ⟨rfl, below_drewN (below_box hb) _⟩
set_option maxRecDepth 100000 in
set_option maxHeartbeats 400000 in
theorem door_uint64_nil (w : World) : Calls Tryz.prog 20 #[.agg #[.int .i64 0, .int .i64 0, .int .u64 0, .float .f64 0, .string ⟨#[]⟩, .slice none 0 0, .slice none 0 0]] w fun e w' => e = .returned (.tuple #[.int .u64 0, .bool true]) ∧ Below w.heap.size w w' := by
  go_enter Tryz.func20, Tryz.ntmps20
  go_wp2_with (first | (go_at_call 23; refine (value_nil _).mono ?_; rintro e w1 ⟨rfl, hb⟩) | (go_at_call 34; refine (to_uint64_nil _).mono ?_; rintro e w' ⟨rfl, rfl⟩))
  go_quiet (fail)
  go_wp2
  go_ret2
  exact ⟨rfl, below_drewN (below_box hb) _⟩
set_option maxRecDepth 100000 in
set_option maxHeartbeats 400000 in
theorem door_uint64_true (w : World) : Calls Tryz.prog 20 #[.agg #[.int .i64 1, .int .i64 1, .int .u64 0, .float .f64 0, .string ⟨#[]⟩, .slice none 0 0, .slice none 0 0]] w fun e w' => e = .returned (.tuple #[.int .u64 1, .bool true]) ∧ Below w.heap.size w w' := by
  go_enter Tryz.func20, Tryz.ntmps20
  go_wp2_with (first | (go_at_call 23; refine (value_true _).mono ?_; rintro e w1 ⟨rfl, hb⟩) | (go_at_call 34; refine (to_uint64_true _).mono ?_; rintro e w' ⟨rfl, rfl⟩))
  go_quiet (fail)
  go_wp2
  go_ret2
  exact ⟨rfl, below_drewN (below_box hb) _⟩
set_option maxRecDepth 100000 in
set_option maxHeartbeats 400000 in
theorem door_uint64_false (w : World) : Calls Tryz.prog 20 #[.agg #[.int .i64 1, .int .i64 0, .int .u64 0, .float .f64 0, .string ⟨#[]⟩, .slice none 0 0, .slice none 0 0]] w fun e w' => e = .returned (.tuple #[.int .u64 0, .bool true]) ∧ Below w.heap.size w w' := by
  go_enter Tryz.func20, Tryz.ntmps20
  go_wp2_with (first | (go_at_call 23; refine (value_false _).mono ?_; rintro e w1 ⟨rfl, hb⟩) | (go_at_call 34; refine (to_uint64_false _).mono ?_; rintro e w' ⟨rfl, rfl⟩))
  go_quiet (fail)
  go_wp2
  go_ret2
  exact ⟨rfl, below_drewN (below_box hb) _⟩
set_option maxRecDepth 100000 in
set_option maxHeartbeats 400000 in
theorem door_uint_nil (w : World) : Calls Tryz.prog 21 #[.agg #[.int .i64 0, .int .i64 0, .int .u64 0, .float .f64 0, .string ⟨#[]⟩, .slice none 0 0, .slice none 0 0]] w fun e w' => e = .returned (.tuple #[.int .u64 0, .bool true]) ∧ Below w.heap.size w w' := by
  go_enter Tryz.func21, Tryz.ntmps21
  go_wp2_with (first | (go_at_call 23; refine (value_nil _).mono ?_; rintro e w1 ⟨rfl, hb⟩) | (go_at_call 35; refine (to_uint_nil _).mono ?_; rintro e w' ⟨rfl, rfl⟩))
  go_quiet (fail)
  go_wp2
  go_ret2
  exact ⟨rfl, below_drewN (below_box hb) _⟩
set_option maxRecDepth 100000 in
set_option maxHeartbeats 400000 in
theorem door_uint_true (w : World) : Calls Tryz.prog 21 #[.agg #[.int .i64 1, .int .i64 1, .int .u64 0, .float .f64 0, .string ⟨#[]⟩, .slice none 0 0, .slice none 0 0]] w fun e w' => e = .returned (.tuple #[.int .u64 1, .bool true]) ∧ Below w.heap.size w w' := by
  go_enter Tryz.func21, Tryz.ntmps21
  go_wp2_with (first | (go_at_call 23; refine (value_true _).mono ?_; rintro e w1 ⟨rfl, hb⟩) | (go_at_call 35; refine (to_uint_true _).mono ?_; rintro e w' ⟨rfl, rfl⟩))
  go_quiet (fail)
  go_wp2
  go_ret2
  exact ⟨rfl, below_drewN (below_box hb) _⟩
set_option maxRecDepth 100000 in
set_option maxHeartbeats 400000 in
theorem door_uint_false (w : World) : Calls Tryz.prog 21 #[.agg #[.int .i64 1, .int .i64 0, .int .u64 0, .float .f64 0, .string ⟨#[]⟩, .slice none 0 0, .slice none 0 0]] w fun e w' => e = .returned (.tuple #[.int .u64 0, .bool true]) ∧ Below w.heap.size w w' := by
  go_enter Tryz.func21, Tryz.ntmps21
  go_wp2_with (first | (go_at_call 23; refine (value_false _).mono ?_; rintro e w1 ⟨rfl, hb⟩) | (go_at_call 35; refine (to_uint_false _).mono ?_; rintro e w' ⟨rfl, rfl⟩))
  go_quiet (fail)
  go_wp2
  go_ret2
  exact ⟨rfl, below_drewN (below_box hb) _⟩
set_option maxRecDepth 100000 in
set_option maxHeartbeats 400000 in
theorem door_float64_nil (w : World) : Calls Tryz.prog 9 #[.agg #[.int .i64 0, .int .i64 0, .int .u64 0, .float .f64 0, .string ⟨#[]⟩, .slice none 0 0, .slice none 0 0]] w fun e w' => e = .returned (.tuple #[.float .f64 0, .bool true]) ∧ Below w.heap.size w w' := by
  go_enter Tryz.func9, Tryz.ntmps9
  go_wp2_with (first | (go_at_call 23; refine (value_nil _).mono ?_; rintro e w1 ⟨rfl, hb⟩) | (go_at_call 22; refine (to_float64_nil _).mono ?_; rintro e w' ⟨rfl, rfl⟩))
  go_quiet (fail)
  go_wp2
  go_ret2
  exact ⟨rfl, below_drewN (below_box hb) _⟩
set_option maxRecDepth 100000 in
set_option maxHeartbeats 400000 in
theorem door_float64_true (w : World) : Calls Tryz.prog 9 #[.agg #[.int .i64 1, .int .i64 1, .int .u64 0, .float .f64 0, .string ⟨#[]⟩, .slice none 0 0, .slice none 0 0]] w fun e w' => e = .returned (.tuple #[.float .f64 4607182418800017408, .bool true]) ∧ Below w.heap.size w w' := by
  go_enter Tryz.func9, Tryz.ntmps9
  go_wp2_with (first | (go_at_call 23; refine (value_true _).mono ?_; rintro e w1 ⟨rfl, hb⟩) | (go_at_call 22; refine (to_float64_true _).mono ?_; rintro e w' ⟨rfl, rfl⟩))
  go_quiet (fail)
  go_wp2
  go_ret2
  exact ⟨rfl, below_drewN (below_box hb) _⟩
set_option maxRecDepth 100000 in
set_option maxHeartbeats 400000 in
theorem door_float64_false (w : World) : Calls Tryz.prog 9 #[.agg #[.int .i64 1, .int .i64 0, .int .u64 0, .float .f64 0, .string ⟨#[]⟩, .slice none 0 0, .slice none 0 0]] w fun e w' => e = .returned (.tuple #[.float .f64 0, .bool true]) ∧ Below w.heap.size w w' := by
  go_enter Tryz.func9, Tryz.ntmps9
  go_wp2_with (first | (go_at_call 23; refine (value_false _).mono ?_; rintro e w1 ⟨rfl, hb⟩) | (go_at_call 22; refine (to_float64_false _).mono ?_; rintro e w' ⟨rfl, rfl⟩))
  go_quiet (fail)
  go_wp2
  go_ret2
  exact ⟨rfl, below_drewN (below_box hb) _⟩
set_option maxRecDepth 100000 in
set_option maxHeartbeats 400000 in
theorem door_string_nil (w : World) : Calls Tryz.prog 11 #[.agg #[.int .i64 0, .int .i64 0, .int .u64 0, .float .f64 0, .string ⟨#[]⟩, .slice none 0 0, .slice none 0 0]] w fun e w' => e = .returned (.tuple #[.string ⟨#[]⟩, .bool true]) ∧ Below w.heap.size w w' := by
  go_enter Tryz.func11, Tryz.ntmps11
  go_wp2_with (first | (go_at_call 23; refine (value_nil _).mono ?_; rintro e w1 ⟨rfl, hb⟩) | (go_at_call 25; refine (to_string_nil _).mono ?_; rintro e w' ⟨rfl, rfl⟩))
  go_quiet (fail)
  go_wp2
  go_ret2
  exact ⟨rfl, below_drewN (below_box hb) _⟩
set_option maxRecDepth 100000 in
set_option maxHeartbeats 400000 in
theorem door_string_true (w : World) : Calls Tryz.prog 11 #[.agg #[.int .i64 1, .int .i64 1, .int .u64 0, .float .f64 0, .string ⟨#[]⟩, .slice none 0 0, .slice none 0 0]] w fun e w' => e = .returned (.tuple #[.string ⟨#[116, 114, 117, 101]⟩, .bool true]) ∧ Below w.heap.size w w' := by
  go_enter Tryz.func11, Tryz.ntmps11
  go_wp2_with (first | (go_at_call 23; refine (value_true _).mono ?_; rintro e w1 ⟨rfl, hb⟩) | (go_at_call 25; refine (to_string_true _).mono ?_; rintro e w' ⟨rfl, rfl⟩))
  go_quiet (fail)
  go_wp2
  go_ret2
  exact ⟨rfl, below_drewN (below_box hb) _⟩
set_option maxRecDepth 100000 in
set_option maxHeartbeats 400000 in
theorem door_string_false (w : World) : Calls Tryz.prog 11 #[.agg #[.int .i64 1, .int .i64 0, .int .u64 0, .float .f64 0, .string ⟨#[]⟩, .slice none 0 0, .slice none 0 0]] w fun e w' => e = .returned (.tuple #[.string ⟨#[102, 97, 108, 115, 101]⟩, .bool true]) ∧ Below w.heap.size w w' := by
  go_enter Tryz.func11, Tryz.ntmps11
  go_wp2_with (first | (go_at_call 23; refine (value_false _).mono ?_; rintro e w1 ⟨rfl, hb⟩) | (go_at_call 25; refine (to_string_false _).mono ?_; rintro e w' ⟨rfl, rfl⟩))
  go_quiet (fail)
  go_wp2
  go_ret2
  exact ⟨rfl, below_drewN (below_box hb) _⟩
set_option maxRecDepth 100000 in
set_option maxHeartbeats 400000 in
theorem door_bool_nil (w : World) : Calls Tryz.prog 10 #[.agg #[.int .i64 0, .int .i64 0, .int .u64 0, .float .f64 0, .string ⟨#[]⟩, .slice none 0 0, .slice none 0 0]] w fun e w' => e = .returned (.tuple #[.bool false, .bool true]) ∧ Below w.heap.size w w' := by
  go_enter Tryz.func10, Tryz.ntmps10
  go_wp2_with (first | (go_at_call 23; refine (value_nil _).mono ?_; rintro e w1 ⟨rfl, hb⟩) | (go_at_call 24; refine (to_bool_nil _).mono ?_; rintro e w' ⟨rfl, rfl⟩))
  go_quiet (fail)
  go_wp2
  go_ret2
  exact ⟨rfl, below_drewN (below_box hb) _⟩
set_option maxRecDepth 100000 in
set_option maxHeartbeats 400000 in
theorem door_bool_strue (w : World) : Calls Tryz.prog 10 #[.agg #[.int .i64 14, .int .i64 0, .int .u64 0, .float .f64 0, .string ⟨#[116, 114, 117, 101]⟩, .slice none 0 0, .slice none 0 0]] w fun e w' => e = .returned (.tuple #[.bool true, .bool true]) ∧ Below w.heap.size w w' := by
  go_enter Tryz.func10, Tryz.ntmps10
  go_wp2_with (first | (go_at_call 23; refine (value_strue _).mono ?_; rintro e w1 ⟨rfl, hb⟩) | (go_at_call 24; refine (to_bool_strue _).mono ?_; rintro e w' ⟨rfl, rfl⟩))
  go_quiet (fail)
  go_wp2
  go_ret2
  exact ⟨rfl, below_drewN (below_box hb) _⟩
set_option maxRecDepth 100000 in
set_option maxHeartbeats 400000 in
theorem door_bool_sfalse (w : World) : Calls Tryz.prog 10 #[.agg #[.int .i64 14, .int .i64 0, .int .u64 0, .float .f64 0, .string ⟨#[102, 97, 108, 115, 101]⟩, .slice none 0 0, .slice none 0 0]] w fun e w' => e = .returned (.tuple #[.bool false, .bool true]) ∧ Below w.heap.size w w' := by
  go_enter Tryz.func10, Tryz.ntmps10
  go_wp2_with (first | (go_at_call 23; refine (value_sfalse _).mono ?_; rintro e w1 ⟨rfl, hb⟩) | (go_at_call 24; refine (to_bool_sfalse _).mono ?_; rintro e w' ⟨rfl, rfl⟩))
  go_quiet (fail)
  go_wp2
  go_ret2
  exact ⟨rfl, below_drewN (below_box hb) _⟩
end Go.Proofs.YtbaanihpckeiaaaGreatDoor
