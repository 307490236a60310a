/- The walk of FnCastNil: at every int it answers true, and writes nothing that was there; no conditions. -/
import Derived.Test.YtbaanihpckeiaaaGreatDoorProg
import Derived.WalkKit
import Derived.WalkSpells
import Derived.WalkLawsBesides
import Derived.Handy
import Derived.BigQuiet
import Derived.Deep.QuietTactic
import Derived.KernelRfl
import Derived.Test.YtbaanihpckeiaaaGreatDoorG

namespace Go.Proofs.YtbaanihpckeiaaaGreatDoor
open Go.RowKit
theorem below_then {w w1 w2 : World} (h : Below w.heap.size w w1) (k : Below w1.heap.size w1 w2) : Below w.heap.size w w2 := h.trans (k.mono h.size)
set_option maxRecDepth 100000 in
set_option maxHeartbeats 400000 in
theorem fnCastNil_walk (k : Int) (w : World) : Calls Tryz.prog 3 #[.int .i64 k] w fun e w' => e = .returned (.bool true) ∧ Below w.heap.size w w' := by
  go_enter Tryz.func3, Tryz.ntmps3
  go_wp2_with (first | (go_at_call 6; refine (castKindInt_any _ _).mono ?_; rintro e w' ⟨⟨κ, hκ1, hκ2, rfl⟩, rfl⟩) | (go_at_call 8; refine (castKindUint_any _ _).mono ?_; rintro e w' ⟨⟨μ, hμ1, hμ2, rfl⟩, rfl⟩) | (go_at_call 5; refine (castInt_nil _ hκ1 hκ2 _).mono ?_; rintro e w1 ⟨rfl, hb1⟩) | (go_at_call 7; refine (castUint_nil _ hμ1 hμ2 _).mono ?_; rintro e w2 ⟨rfl, hb2⟩) | (go_at_call 9; refine (door_float64_nil _).mono ?_; rintro e w3 ⟨rfl, hb3⟩) | (go_at_call 10; refine (door_bool_nil _).mono ?_; rintro e w4 ⟨rfl, hb4⟩) | (go_at_call 11; refine (door_string_nil _).mono ?_; rintro e w5 ⟨rfl, hb5⟩))
  go_ret
  exact ⟨rfl, below_then (below_then (below_then (below_then hb1 hb2) hb3) hb4) hb5⟩
end Go.Proofs.YtbaanihpckeiaaaGreatDoor
