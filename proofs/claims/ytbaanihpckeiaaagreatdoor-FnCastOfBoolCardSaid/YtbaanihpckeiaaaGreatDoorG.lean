/- What castKindInt, castKindUint, castInt and castUint answer: a kind's number, and of nil and of a bool the number 0 or 1 at every kind; nothing that was there is written; the kind is one of five. -/
import Derived.Test.YtbaanihpckeiaaaGreatDoorProg
import Derived.WalkKit
import Derived.WalkSpells
import Derived.WalkLawsBesides
import Derived.Handy
import Derived.BigQuiet
import Derived.Deep.QuietTactic
import Derived.KernelRfl
import Derived.Test.YtbaanihpckeiaaaGreatDoorF

namespace Go.Proofs.YtbaanihpckeiaaaGreatDoor
open Go.RowKit
/-- castKindInt and castKindUint answer one of five numbers, and touch nothing. -/
def OneOf (lo : Int) (w : World) (e : Ending) (w' : World) : Prop := (∃ κ : Int, lo ≤ κ ∧ κ ≤ lo + 4 ∧ e = .returned (.int .i64 κ)) ∧ w = w'
theorem kind_in (lo k : Int) (h0 : 0 ≤ lo) (h1 : lo ≤ 7) : lo ≤ wrap64 (lo + wrap64 ((IntKind.u64.wrap k).tmod 5)) ∧ wrap64 (lo + wrap64 ((IntKind.u64.wrap k).tmod 5)) ≤ lo + 4 := by
  have h : 0 ≤ IntKind.u64.wrap k := by rw [IntKind.wrap_u64]; omega
  rw [Int.tmod_eq_emod_of_nonneg h]
  generalize IntKind.u64.wrap k = q at *
  have e : wrap64 (q % 5) = q % 5 := by unfold wrap64; omega
  rw [e]
  unfold wrap64
  omega
set_option maxHeartbeats 400000 in
theorem castKindInt_any (k : Int) (w : World) : Calls Tryz.prog 6 #[.int .i64 k] w (OneOf 2 w) := by
  go_enter Tryz.func6, Tryz.ntmps6
  go_wp2
  go_ret
  exact ⟨⟨_, (kind_in 2 k (by omega) (by omega)).1, (kind_in 2 k (by omega) (by omega)).2, rfl⟩, rfl⟩
set_option maxHeartbeats 400000 in
theorem castKindUint_any (k : Int) (w : World) : Calls Tryz.prog 8 #[.int .i64 k] w (OneOf 7 w) := by
  go_enter Tryz.func8, Tryz.ntmps8
  go_wp2
  go_ret
  exact ⟨⟨_, (kind_in 7 k (by omega) (by omega)).1, (kind_in 7 k (by omega) (by omega)).2, rfl⟩, rfl⟩
set_option maxRecDepth 100000 in
set_option maxHeartbeats 400000 in
theorem castInt_nil_2 (w : World) : Calls Tryz.prog 5 #[.int .i64 2, .agg #[.int .i64 0, .int .i64 0, .int .u64 0, .float .f64 0, .string ⟨#[]⟩, .slice none 0 0, .slice none 0 0]] w fun e w' => e = .returned (.tuple #[.int .i64 0, .bool true]) ∧ Below w.heap.size w w' := by
  go_enter Tryz.func5, Tryz.ntmps5
  go_wp2_with (go_at_call 16; refine (door_int_nil _).mono ?_; rintro e w1 ⟨rfl, hb⟩)
  go_ret2
  exact ⟨rfl, below_box hb⟩
set_option maxRecDepth 100000 in
set_option maxHeartbeats 400000 in
theorem castInt_nil_3 (w : World) : Calls Tryz.prog 5 #[.int .i64 3, .agg #[.int .i64 0, .int .i64 0, .int .u64 0, .float .f64 0, .string ⟨#[]⟩, .slice none 0 0, .slice none 0 0]] w fun e w' => e = .returned (.tuple #[.int .i64 0, .bool true]) ∧ Below w.heap.size w w' := by
  go_enter Tryz.func5, Tryz.ntmps5
  go_wp2_with (go_at_call 12; refine (door_int8_nil _).mono ?_; rintro e w1 ⟨rfl, hb⟩)
  go_ret2
  exact ⟨rfl, below_box hb⟩
set_option maxRecDepth 100000 in
set_option maxHeartbeats 400000 in
theorem castInt_nil_4 (w : World) : Calls Tryz.prog 5 #[.int .i64 4, .agg #[.int .i64 0, .int .i64 0, .int .u64 0, .float .f64 0, .string ⟨#[]⟩, .slice none 0 0, .slice none 0 0]] w fun e w' => e = .returned (.tuple #[.int .i64 0, .bool true]) ∧ Below w.heap.size w w' := by
  go_enter Tryz.func5, Tryz.ntmps5
  go_wp2_with (go_at_call 13; refine (door_int16_nil _).mono ?_; rintro e w1 ⟨rfl, hb⟩)
  go_ret2
  exact ⟨rfl, below_box hb⟩
set_option maxRecDepth 100000 in
set_option maxHeartbeats 400000 in
theorem castInt_nil_5 (w : World) : Calls Tryz.prog 5 #[.int .i64 5, .agg #[.int .i64 0, .int .i64 0, .int .u64 0, .float .f64 0, .string ⟨#[]⟩, .slice none 0 0, .slice none 0 0]] w fun e w' => e = .returned (.tuple #[.int .i64 0, .bool true]) ∧ Below w.heap.size w w' := by
  go_enter Tryz.func5, Tryz.ntmps5
  go_wp2_with (go_at_call 14; refine (door_int32_nil _).mono ?_; rintro e w1 ⟨rfl, hb⟩)
  go_ret2
  exact ⟨rfl, below_box hb⟩
set_option maxRecDepth 100000 in
set_option maxHeartbeats 400000 in
theorem castInt_nil_6 (w : World) : Calls Tryz.prog 5 #[.int .i64 6, .agg #[.int .i64 0, .int .i64 0, .int .u64 0, .float .f64 0, .string ⟨#[]⟩, .slice none 0 0, .slice none 0 0]] w fun e w' => e = .returned (.tuple #[.int .i64 0, .bool true]) ∧ Below w.heap.size w w' := by
  go_enter Tryz.func5, Tryz.ntmps5
  go_wp2_with (go_at_call 15; refine (door_int64_nil _).mono ?_; rintro e w1 ⟨rfl, hb⟩)
  go_ret2
  exact ⟨rfl, below_box hb⟩
theorem castInt_nil (κ : Int) (h1 : 2 ≤ κ) (h2 : κ ≤ 2 + 4) (w : World) : Calls Tryz.prog 5 #[.int .i64 κ, .agg #[.int .i64 0, .int .i64 0, .int .u64 0, .float .f64 0, .string ⟨#[]⟩, .slice none 0 0, .slice none 0 0]] w fun e w' => e = .returned (.tuple #[.int .i64 0, .bool true]) ∧ Below w.heap.size w w' := by
  obtain rfl | rfl | rfl | rfl | rfl : κ = 2 ∨ κ = 3 ∨ κ = 4 ∨ κ = 5 ∨ κ = 6 := by omega
  · exact castInt_nil_2 w
  · exact castInt_nil_3 w
  · exact castInt_nil_4 w
  · exact castInt_nil_5 w
  · exact castInt_nil_6 w
set_option maxRecDepth 100000 in
set_option maxHeartbeats 400000 in
theorem castInt_true_2 (w : World) : Calls Tryz.prog 5 #[.int .i64 2, .agg #[.int .i64 1, .int .i64 1, .int .u64 0, .float .f64 0, .string ⟨#[]⟩, .slice none 0 0, .slice none 0 0]] w fun e w' => e = .returned (.tuple #[.int .i64 1, .bool true]) ∧ Below w.heap.size w w' := by
  go_enter Tryz.func5, Tryz.ntmps5
  go_wp2_with (go_at_call 16; refine (door_int_true _).mono ?_; rintro e w1 ⟨rfl, hb⟩)
  go_ret2
  exact ⟨rfl, below_box hb⟩
set_option maxRecDepth 100000 in
set_option maxHeartbeats 400000 in
theorem castInt_true_3 (w : World) : Calls Tryz.prog 5 #[.int .i64 3, .agg #[.int .i64 1, .int .i64 1, .int .u64 0, .float .f64 0, .string ⟨#[]⟩, .slice none 0 0, .slice none 0 0]] w fun e w' => e = .returned (.tuple #[.int .i64 1, .bool true]) ∧ Below w.heap.size w w' := by
  go_enter Tryz.func5, Tryz.ntmps5
  go_wp2_with (go_at_call 12; refine (door_int8_true _).mono ?_; rintro e w1 ⟨rfl, hb⟩)
  go_ret2
  exact ⟨rfl, below_box hb⟩
set_option maxRecDepth 100000 in
set_option maxHeartbeats 400000 in
theorem castInt_true_4 (w : World) : Calls Tryz.prog 5 #[.int .i64 4, .agg #[.int .i64 1, .int .i64 1, .int .u64 0, .float .f64 0, .string ⟨#[]⟩, .slice none 0 0, .slice none 0 0]] w fun e w' => e = .returned (.tuple #[.int .i64 1, .bool true]) ∧ Below w.heap.size w w' := by
  go_enter Tryz.func5, Tryz.ntmps5
  go_wp2_with (go_at_call 13; refine (door_int16_true _).mono ?_; rintro e w1 ⟨rfl, hb⟩)
  go_ret2
  exact ⟨rfl, below_box hb⟩
set_option maxRecDepth 100000 in
set_option maxHeartbeats 400000 in
theorem castInt_true_5 (w : World) : Calls Tryz.prog 5 #[.int .i64 5, .agg #[.int .i64 1, .int .i64 1, .int .u64 0, .float .f64 0, .string ⟨#[]⟩, .slice none 0 0, .slice none 0 0]] w fun e w' => e = .returned (.tuple #[.int .i64 1, .bool true]) ∧ Below w.heap.size w w' := by
  go_enter Tryz.func5, Tryz.ntmps5
  go_wp2_with (go_at_call 14; refine (door_int32_true _).mono ?_; rintro e w1 ⟨rfl, hb⟩)
  go_ret2
  exact ⟨rfl, below_box hb⟩
set_option maxRecDepth 100000 in
set_option maxHeartbeats 400000 in
theorem castInt_true_6 (w : World) : Calls Tryz.prog 5 #[.int .i64 6, .agg #[.int .i64 1, .int .i64 1, .int .u64 0, .float .f64 0, .string ⟨#[]⟩, .slice none 0 0, .slice none 0 0]] w fun e w' => e = .returned (.tuple #[.int .i64 1, .bool true]) ∧ Below w.heap.size w w' := by
  go_enter Tryz.func5, Tryz.ntmps5
  go_wp2_with (go_at_call 15; refine (door_int64_true _).mono ?_; rintro e w1 ⟨rfl, hb⟩)
  go_ret2
  exact ⟨rfl, below_box hb⟩
theorem castInt_true (κ : Int) (h1 : 2 ≤ κ) (h2 : κ ≤ 2 + 4) (w : World) : Calls Tryz.prog 5 #[.int .i64 κ, .agg #[.int .i64 1, .int .i64 1, .int .u64 0, .float .f64 0, .string ⟨#[]⟩, .slice none 0 0, .slice none 0 0]] w fun e w' => e = .returned (.tuple #[.int .i64 1, .bool true]) ∧ Below w.heap.size w w' := by
  obtain rfl | rfl | rfl | rfl | rfl : κ = 2 ∨ κ = 3 ∨ κ = 4 ∨ κ = 5 ∨ κ = 6 := by omega
  · exact castInt_true_2 w
  · exact castInt_true_3 w
  · exact castInt_true_4 w
  · exact castInt_true_5 w
  · exact castInt_true_6 w
set_option maxRecDepth 100000 in
set_option maxHeartbeats 400000 in
theorem castInt_false_2 (w : World) : Calls Tryz.prog 5 #[.int .i64 2, .agg #[.int .i64 1, .int .i64 0, .int .u64 0, .float .f64 0, .string ⟨#[]⟩, .slice none 0 0, .slice none 0 0]] w fun e w' => e = .returned (.tuple #[.int .i64 0, .bool true]) ∧ Below w.heap.size w w' := by
  go_enter Tryz.func5, Tryz.ntmps5
  go_wp2_with (go_at_call 16; refine (door_int_false _).mono ?_; rintro e w1 ⟨rfl, hb⟩)
  go_ret2
  exact ⟨rfl, below_box hb⟩
set_option maxRecDepth 100000 in
set_option maxHeartbeats 400000 in
theorem castInt_false_3 (w : World) : Calls Tryz.prog 5 #[.int .i64 3, .agg #[.int .i64 1, .int .i64 0, .int .u64 0, .float .f64 0, .string ⟨#[]⟩, .slice none 0 0, .slice none 0 0]] w fun e w' => e = .returned (.tuple #[.int .i64 0, .bool true]) ∧ Below w.heap.size w w' := by
  go_enter Tryz.func5, Tryz.ntmps5
  go_wp2_with (go_at_call 12; refine (door_int8_false _).mono ?_; rintro e w1 ⟨rfl, hb⟩)
  go_ret2
  exact ⟨rfl, below_box hb⟩
set_option maxRecDepth 100000 in
set_option maxHeartbeats 400000 in
theorem castInt_false_4 (w : World) : Calls Tryz.prog 5 #[.int .i64 4, .agg #[.int .i64 1, .int .i64 0, .int .u64 0, .float .f64 0, .string ⟨#[]⟩, .slice none 0 0, .slice none 0 0]] w fun e w' => e = .returned (.tuple #[.int .i64 0, .bool true]) ∧ Below w.heap.size w w' := by
  go_enter Tryz.func5, Tryz.ntmps5
  go_wp2_with (go_at_call 13; refine (door_int16_false _).mono ?_; rintro e w1 ⟨rfl, hb⟩)
  go_ret2
  exact ⟨rfl, below_box hb⟩
set_option maxRecDepth 100000 in
set_option maxHeartbeats 400000 in
theorem castInt_false_5 (w : World) : Calls Tryz.prog 5 #[.int .i64 5, .agg #[.int .i64 1, .int .i64 0, .int .u64 0, .float .f64 0, .string ⟨#[]⟩, .slice none 0 0, .slice none 0 0]] w fun e w' => e = .returned (.tuple #[.int .i64 0, .bool true]) ∧ Below w.heap.size w w' := by
  go_enter Tryz.func5, Tryz.ntmps5
  go_wp2_with (go_at_call 14; refine (door_int32_false _).mono ?_; rintro e w1 ⟨rfl, hb⟩)
  go_ret2
  exact ⟨rfl, below_box hb⟩
set_option maxRecDepth 100000 in
set_option maxHeartbeats 400000 in
theorem castInt_false_6 (w : World) : Calls Tryz.prog 5 #[.int .i64 6, .agg #[.int .i64 1, .int .i64 0, .int .u64 0, .float .f64 0, .string ⟨#[]⟩, .slice none 0 0, .slice none 0 0]] w fun e w' => e = .returned (.tuple #[.int .i64 0, .bool true]) ∧ Below w.heap.size w w' := by
  go_enter Tryz.func5, Tryz.ntmps5
  go_wp2_with (go_at_call 15; refine (door_int64_false _).mono ?_; rintro e w1 ⟨rfl, hb⟩)
  go_ret2
  exact ⟨rfl, below_box hb⟩
theorem castInt_false (κ : Int) (h1 : 2 ≤ κ) (h2 : κ ≤ 2 + 4) (w : World) : Calls Tryz.prog 5 #[.int .i64 κ, .agg #[.int .i64 1, .int .i64 0, .int .u64 0, .float .f64 0, .string ⟨#[]⟩, .slice none 0 0, .slice none 0 0]] w fun e w' => e = .returned (.tuple #[.int .i64 0, .bool true]) ∧ Below w.heap.size w w' := by
  obtain rfl | rfl | rfl | rfl | rfl : κ = 2 ∨ κ = 3 ∨ κ = 4 ∨ κ = 5 ∨ κ = 6 := by omega
  · exact castInt_false_2 w
  · exact castInt_false_3 w
  · exact castInt_false_4 w
  · exact castInt_false_5 w
  · exact castInt_false_6 w
set_option maxRecDepth 100000 in
set_option maxHeartbeats 400000 in
theorem castUint_nil_7 (w : World) : Calls Tryz.prog 7 #[.int .i64 7, .agg #[.int .i64 0, .int .i64 0, .int .u64 0, .float .f64 0, .string ⟨#[]⟩, .slice none 0 0, .slice none 0 0]] w fun e w' => e = .returned (.tuple #[.int .u64 0, .bool true]) ∧ Below w.heap.size w w' := by
  go_enter Tryz.func7, Tryz.ntmps7
  go_wp2_with (go_at_call 21; refine (door_uint_nil _).mono ?_; rintro e w1 ⟨rfl, hb⟩)
  go_ret2
  exact ⟨rfl, below_box hb⟩
set_option maxRecDepth 100000 in
set_option maxHeartbeats 400000 in
theorem castUint_nil_8 (w : World) : Calls Tryz.prog 7 #[.int .i64 8, .agg #[.int .i64 0, .int .i64 0, .int .u64 0, .float .f64 0, .string ⟨#[]⟩, .slice none 0 0, .slice none 0 0]] w fun e w' => e = .returned (.tuple #[.int .u64 0, .bool true]) ∧ Below w.heap.size w w' := by
  go_enter Tryz.func7, Tryz.ntmps7
  go_wp2_with (go_at_call 17; refine (door_uint8_nil _).mono ?_; rintro e w1 ⟨rfl, hb⟩)
  go_ret2
  exact ⟨rfl, below_box hb⟩
set_option maxRecDepth 100000 in
set_option maxHeartbeats 400000 in
theorem castUint_nil_9 (w : World) : Calls Tryz.prog 7 #[.int .i64 9, .agg #[.int .i64 0, .int .i64 0, .int .u64 0, .float .f64 0, .string ⟨#[]⟩, .slice none 0 0, .slice none 0 0]] w fun e w' => e = .returned (.tuple #[.int .u64 0, .bool true]) ∧ Below w.heap.size w w' := by
  go_enter Tryz.func7, Tryz.ntmps7
  go_wp2_with (go_at_call 18; refine (door_uint16_nil _).mono ?_; rintro e w1 ⟨rfl, hb⟩)
  go_ret2
  exact ⟨rfl, below_box hb⟩
set_option maxRecDepth 100000 in
set_option maxHeartbeats 400000 in
theorem castUint_nil_10 (w : World) : Calls Tryz.prog 7 #[.int .i64 10, .agg #[.int .i64 0, .int .i64 0, .int .u64 0, .float .f64 0, .string ⟨#[]⟩, .slice none 0 0, .slice none 0 0]] w fun e w' => e = .returned (.tuple #[.int .u64 0, .bool true]) ∧ Below w.heap.size w w' := by
  go_enter Tryz.func7, Tryz.ntmps7
  go_wp2_with (go_at_call 19; refine (door_uint32_nil _).mono ?_; rintro e w1 ⟨rfl, hb⟩)
  go_ret2
  exact ⟨rfl, below_box hb⟩
set_option maxRecDepth 100000 in
set_option maxHeartbeats 400000 in
theorem castUint_nil_11 (w : World) : Calls Tryz.prog 7 #[.int .i64 11, .agg #[.int .i64 0, .int .i64 0, .int .u64 0, .float .f64 0, .string ⟨#[]⟩, .slice none 0 0, .slice none 0 0]] w fun e w' => e = .returned (.tuple #[.int .u64 0, .bool true]) ∧ Below w.heap.size w w' := by
  go_enter Tryz.func7, Tryz.ntmps7
  go_wp2_with (go_at_call 20; refine (door_uint64_nil _).mono ?_; rintro e w1 ⟨rfl, hb⟩)
  go_ret2
  exact ⟨rfl, below_box hb⟩
theorem castUint_nil (κ : Int) (h1 : 7 ≤ κ) (h2 : κ ≤ 7 + 4) (w : World) : Calls Tryz.prog 7 #[.int .i64 κ, .agg #[.int .i64 0, .int .i64 0, .int .u64 0, .float .f64 0, .string ⟨#[]⟩, .slice none 0 0, .slice none 0 0]] w fun e w' => e = .returned (.tuple #[.int .u64 0, .bool true]) ∧ Below w.heap.size w w' := by
  obtain rfl | rfl | rfl | rfl | rfl : κ = 7 ∨ κ = 8 ∨ κ = 9 ∨ κ = 10 ∨ κ = 11 := by omega
  · exact castUint_nil_7 w
  · exact castUint_nil_8 w
  · exact castUint_nil_9 w
  · exact castUint_nil_10 w
  · exact castUint_nil_11 w
set_option maxRecDepth 100000 in
set_option maxHeartbeats 400000 in
theorem castUint_true_7 (w : World) : Calls Tryz.prog 7 #[.int .i64 7, .agg #[.int .i64 1, .int .i64 1, .int .u64 0, .float .f64 0, .string ⟨#[]⟩, .slice none 0 0, .slice none 0 0]] w fun e w' => e = .returned (.tuple #[.int .u64 1, .bool true]) ∧ Below w.heap.size w w' := by
  go_enter Tryz.func7, Tryz.ntmps7
  go_wp2_with (go_at_call 21; refine (door_uint_true _).mono ?_; rintro e w1 ⟨rfl, hb⟩)
  go_ret2
  exact ⟨rfl, below_box hb⟩
set_option maxRecDepth 100000 in
set_option maxHeartbeats 400000 in
theorem castUint_true_8 (w : World) : Calls Tryz.prog 7 #[.int .i64 8, .agg #[.int .i64 1, .int .i64 1, .int .u64 0, .float .f64 0, .string ⟨#[]⟩, .slice none 0 0, .slice none 0 0]] w fun e w' => e = .returned (.tuple #[.int .u64 1, .bool true]) ∧ Below w.heap.size w w' := by
  go_enter Tryz.func7, Tryz.ntmps7
  go_wp2_with (go_at_call 17; refine (door_uint8_true _).mono ?_; rintro e w1 ⟨rfl, hb⟩)
  go_ret2
  exact ⟨rfl, below_box hb⟩
set_option maxRecDepth 100000 in
set_option maxHeartbeats 400000 in
theorem castUint_true_9 (w : World) : Calls Tryz.prog 7 #[.int .i64 9, .agg #[.int .i64 1, .int .i64 1, .int .u64 0, .float .f64 0, .string ⟨#[]⟩, .slice none 0 0, .slice none 0 0]] w fun e w' => e = .returned (.tuple #[.int .u64 1, .bool true]) ∧ Below w.heap.size w w' := by
  go_enter Tryz.func7, Tryz.ntmps7
  go_wp2_with (go_at_call 18; refine (door_uint16_true _).mono ?_; rintro e w1 ⟨rfl, hb⟩)
  go_ret2
  exact ⟨rfl, below_box hb⟩
set_option maxRecDepth 100000 in
set_option maxHeartbeats 400000 in
theorem castUint_true_10 (w : World) : Calls Tryz.prog 7 #[.int .i64 10, .agg #[.int .i64 1, .int .i64 1, .int .u64 0, .float .f64 0, .string ⟨#[]⟩, .slice none 0 0, .slice none 0 0]] w fun e w' => e = .returned (.tuple #[.int .u64 1, .bool true]) ∧ Below w.heap.size w w' := by
  go_enter Tryz.func7, Tryz.ntmps7
  go_wp2_with (go_at_call 19; refine (door_uint32_true _).mono ?_; rintro e w1 ⟨rfl, hb⟩)
  go_ret2
  exact ⟨rfl, below_box hb⟩
set_option maxRecDepth 100000 in
set_option maxHeartbeats 400000 in
theorem castUint_true_11 (w : World) : Calls Tryz.prog 7 #[.int .i64 11, .agg #[.int .i64 1, .int .i64 1, .int .u64 0, .float .f64 0, .string ⟨#[]⟩, .slice none 0 0, .slice none 0 0]] w fun e w' => e = .returned (.tuple #[.int .u64 1, .bool true]) ∧ Below w.heap.size w w' := by
  go_enter Tryz.func7, Tryz.ntmps7
  go_wp2_with (go_at_call 20; refine (door_uint64_true _).mono ?_; rintro e w1 ⟨rfl, hb⟩)
  go_ret2
  exact ⟨rfl, below_box hb⟩
theorem castUint_true (κ : Int) (h1 : 7 ≤ κ) (h2 : κ ≤ 7 + 4) (w : World) : Calls Tryz.prog 7 #[.int .i64 κ, .agg #[.int .i64 1, .int .i64 1, .int .u64 0, .float .f64 0, .string ⟨#[]⟩, .slice none 0 0, .slice none 0 0]] w fun e w' => e = .returned (.tuple #[.int .u64 1, .bool true]) ∧ Below w.heap.size w w' := by
  obtain rfl | rfl | rfl | rfl | rfl : κ = 7 ∨ κ = 8 ∨ κ = 9 ∨ κ = 10 ∨ κ = 11 := by omega
  · exact castUint_true_7 w
  · exact castUint_true_8 w
  · exact castUint_true_9 w
  · exact castUint_true_10 w
  · exact castUint_true_11 w
set_option maxRecDepth 100000 in
set_option maxHeartbeats 400000 in
theorem castUint_false_7 (w : World) : Calls Tryz.prog 7 #[.int .i64 7, .agg #[.int .i64 1, .int .i64 0, .int .u64 0, .float .f64 0, .string ⟨#[]⟩, .slice none 0 0, .slice none 0 0]] w fun e w' => e = .returned (.tuple #[.int .u64 0, .bool true]) ∧ Below w.heap.size w w' := by
  go_enter Tryz.func7, Tryz.ntmps7
  go_wp2_with (go_at_call 21; refine (door_uint_false _).mono ?_; rintro e w1 ⟨rfl, hb⟩)
  go_ret2
  exact ⟨rfl, below_box hb⟩
set_option maxRecDepth 100000 in
set_option maxHeartbeats 400000 in
theorem castUint_false_8 (w : World) : Calls Tryz.prog 7 #[.int .i64 8, .agg #[.int .i64 1, .int .i64 0, .int .u64 0, .float .f64 0, .string ⟨#[]⟩, .slice none 0 0, .slice none 0 0]] w fun e w' => e = .returned (.tuple #[.int .u64 0, .bool true]) ∧ Below w.heap.size w w' := by
  go_enter Tryz.func7, Tryz.ntmps7
  go_wp2_with (go_at_call 17; refine (door_uint8_false _).mono ?_; rintro e w1 ⟨rfl, hb⟩)
  go_ret2
  exact ⟨rfl, below_box hb⟩
set_option maxRecDepth 100000 in
set_option maxHeartbeats 400000 in
theorem castUint_false_9 (w : World) : Calls Tryz.prog 7 #[.int .i64 9, .agg #[.int .i64 1, .int .i64 0, .int .u64 0, .float .f64 0, .string ⟨#[]⟩, .slice none 0 0, .slice none 0 0]] w fun e w' => e = .returned (.tuple #[.int .u64 0, .bool true]) ∧ Below w.heap.size w w' := by
  go_enter Tryz.func7, Tryz.ntmps7
  go_wp2_with (go_at_call 18; refine (door_uint16_false _).mono ?_; rintro e w1 ⟨rfl, hb⟩)
  go_ret2
  exact ⟨rfl, below_box hb⟩
set_option maxRecDepth 100000 in
set_option maxHeartbeats 400000 in
theorem castUint_false_10 (w : World) : Calls Tryz.prog 7 #[.int .i64 10, .agg #[.int .i64 1, .int .i64 0, .int .u64 0, .float .f64 0, .string ⟨#[]⟩, .slice none 0 0, .slice none 0 0]] w fun e w' => e = .returned (.tuple #[.int .u64 0, .bool true]) ∧ Below w.heap.size w w' := by
  go_enter Tryz.func7, Tryz.ntmps7
  go_wp2_with (go_at_call 19; refine (door_uint32_false _).mono ?_; rintro e w1 ⟨rfl, hb⟩)
  go_ret2
  exact ⟨rfl, below_box hb⟩
set_option maxRecDepth 100000 in
set_option maxHeartbeats 400000 in
theorem castUint_false_11 (w : World) : Calls Tryz.prog 7 #[.int .i64 11, .agg #[.int .i64 1, .int .i64 0, .int .u64 0, .float .f64 0, .string ⟨#[]⟩, .slice none 0 0, .slice none 0 0]] w fun e w' => e = .returned (.tuple #[.int .u64 0, .bool true]) ∧ Below w.heap.size w w' := by
  go_enter Tryz.func7, Tryz.ntmps7
  go_wp2_with (go_at_call 20; refine (door_uint64_false _).mono ?_; rintro e w1 ⟨rfl, hb⟩)
  go_ret2
  exact ⟨rfl, below_box hb⟩
theorem castUint_false (κ : Int) (h1 : 7 ≤ κ) (h2 : κ ≤ 7 + 4) (w : World) : Calls Tryz.prog 7 #[.int .i64 κ, .agg #[.int .i64 1, .int .i64 0, .int .u64 0, .float .f64 0, .string ⟨#[]⟩, .slice none 0 0, .slice none 0 0]] w fun e w' => e = .returned (.tuple #[.int .u64 0, .bool true]) ∧ Below w.heap.size w w' := by
  obtain rfl | rfl | rfl | rfl | rfl : κ = 7 ∨ κ = 8 ∨ κ = 9 ∨ κ = 10 ∨ κ = 11 := by omega
  · exact castUint_false_7 w
  · exact castUint_false_8 w
  · exact castUint_false_9 w
  · exact castUint_false_10 w
  · exact castUint_false_11 w
end Go.Proofs.YtbaanihpckeiaaaGreatDoor
