/- The walk of FnCastOfBool at false, and at every bool: at every int it answers true, and writes nothing that was there; no conditions. -/
import Derived.Test.YtbaanihpckeiaaaGreatDoorProg
import Derived.WalkKit
import Derived.WalkSpells
import Derived.WalkLawsBesides
import Derived.Handy
import Derived.BigQuiet
import Derived.Deep.QuietTactic
import Derived.Deep.RegionWith
import Derived.KernelRfl
import Derived.Test.YtbaanihpckeiaaaGreatDoorI

namespace Go.Proofs.YtbaanihpckeiaaaGreatDoor
open Go.RowKit
set_option maxRecDepth 100000 in
set_option maxHeartbeats 4000000 in
theorem fnCastOfBool_false (k : Int) (w : World) : Calls Tryz.prog 4 #[.int .i64 k, .bool false] w fun e w' => e = .returned (.bool true) ∧ Below w.heap.size w w' := by
  go_enter Tryz.func4, Tryz.ntmps4
  go_wp2_with fail
  go_region_with (first | (go_at_call 6; refine (castKindInt_any _ _).mono ?_; rintro e w' ⟨⟨κ, hκ1, hκ2, rfl⟩, rfl⟩) | (go_at_call 5; refine (castInt_false _ hκ1 hκ2 _).mono ?_; rintro e w1 ⟨rfl, hb1⟩))
  all_goals
    obtain ⟨ha1, hl1, hB1, hs1⟩ := Any7.first hb1
    clear hb1
    obtain ⟨c0, c1, c2, c3, c4, c5, c6⟩ := id ha1
    go_wp2_with fail
    go_region_with (first | (go_at_call 8; refine (castKindUint_any _ _).mono ?_; rintro e w' ⟨⟨μ, hμ1, hμ2, rfl⟩, rfl⟩) | (go_at_call 7; refine (castUint_false _ hμ1 hμ2 _).mono ?_; rintro e w2 ⟨rfl, hb2⟩))
  all_goals
    obtain ⟨ha2, hl2, hB2, hs2⟩ := Any7.next (w1 := w1.drew) ha1 hl1 hB1.drew hs1 hb2
    clear hb2 c0 c1 c2 c3 c4 c5 c6 ha1 hB1
    obtain ⟨c0, c1, c2, c3, c4, c5, c6⟩ := id ha2
    go_wp2_with fail
    refine (door_float64_false _).mono ?_
    rintro e w3 ⟨rfl, hb3⟩
    obtain ⟨ha3, hl3, hB3, hs3⟩ := Any7.next ha2 hl2 hB2 hs2 hb3
    clear hb3 c0 c1 c2 c3 c4 c5 c6 ha2 hB2
    obtain ⟨c0, c1, c2, c3, c4, c5, c6⟩ := id ha3
    go_wp2_with fail
    refine (door_string_false _).mono ?_
    rintro e w4 ⟨rfl, hb4⟩
    obtain ⟨-, -, hB4, hs4⟩ := Any7.next ha3 hl3 hB3 hs3 hb4
    clear hb4 c0 c1 c2 c3 c4 c5 c6 ha3 hB3
    go_wp2_with fail
    refine (door_bool_sfalse _).mono ?_
    rintro e w5 ⟨rfl, hb5⟩
    have hB5 := hB4.trans (hb5.mono hs4)
    clear hb5
    go_wp2
    go_ret
    exact ⟨rfl, hB5⟩
theorem fnCastOfBool_walk (k : Int) (on : Bool) (w : World) : Calls Tryz.prog 4 #[.int .i64 k, .bool on] w fun e w' => e = .returned (.bool true) ∧ Below w.heap.size w w' := by
  cases on
  · exact fnCastOfBool_false k w
  · exact fnCastOfBool_true k w
end Go.Proofs.YtbaanihpckeiaaaGreatDoor
