/- The walk of FnCastOfBool at true: at every int it answers true, and writes nothing that was there; no conditions. -/
import Derived.Test.YtbaanihpckeiaaaGreatDoorProg
import Derived.WalkKit
import Derived.WalkSpells
import Derived.WalkLawsBesides
import Derived.Handy
import Derived.BigQuiet
import Derived.Deep.QuietTactic
import Derived.Deep.RegionWith
import Derived.KernelRfl
import Derived.Test.YtbaanihpckeiaaaGreatDoorG

namespace Go.Proofs.YtbaanihpckeiaaaGreatDoor
open Go.RowKit
@[go_sem] theorem store_float (w : World) (a : Addr) (m : Mode) (k : FloatKind) (n : Nat) : (store a (.float k n) m).run Tryz.prog w = stored Tryz.prog w a (.float k n) m := run_store Tryz.prog w a _ m rfl
/-- The seven cells of the statement's own value: a bool. -/
def Any7 (w : World) (b : Nat) (x : Int) : Prop :=
  w.cell? ⟨b, 0, none⟩ = some (.int .i64 1) ∧ w.cell? ⟨b, 1, none⟩ = some (.int .i64 x) ∧ w.cell? ⟨b, 2, none⟩ = some (.int .u64 0) ∧ w.cell? ⟨b, 3, none⟩ = some (.float .f64 0) ∧
  w.cell? ⟨b, 4, none⟩ = some (.string ⟨#[]⟩) ∧ w.cell? ⟨b, 5, none⟩ = some (.slice none 0 0) ∧ w.cell? ⟨b, 6, none⟩ = some (.slice none 0 0)
theorem Any7.next {w w1 w2 : World} {b : Nat} {x : Int} {B : Nat} (h : Any7 w1 b x) (hlt : b < w1.heap.size) (hB : Below B w w1) (hs : B ≤ w1.heap.size) (hb : Below w1.heap.size w1 w2) :
    Any7 w2 b x ∧ b < w2.heap.size ∧ Below B w w2 ∧ B ≤ w2.heap.size := by
  obtain ⟨c0, c1, c2, c3, c4, c5, c6⟩ := h
  refine ⟨⟨?_, ?_, ?_, ?_, ?_, ?_, ?_⟩, Nat.lt_of_lt_of_le hlt hb.size, hB.trans (hb.mono hs), Nat.le_trans hs hb.size⟩ <;> (rw [hb.cell (by exact hlt)]; assumption)
theorem any7_new (w : World) (x : Int) : Any7 (w.alloc (.cells #[.int .i64 1, .int .i64 x, .int .u64 0, .float .f64 0, .string ⟨#[]⟩, .slice none 0 0, .slice none 0 0] 30)) w.heap.size x := by
  simp [Any7, go_sem]
theorem Any7.first {w w2 : World} {x : Int} (hb : Below (w.alloc (.cells #[.int .i64 1, .int .i64 x, .int .u64 0, .float .f64 0, .string ⟨#[]⟩, .slice none 0 0, .slice none 0 0] 30)).drew.heap.size (w.alloc (.cells #[.int .i64 1, .int .i64 x, .int .u64 0, .float .f64 0, .string ⟨#[]⟩, .slice none 0 0, .slice none 0 0] 30)).drew w2) :
    Any7 w2 w.heap.size x ∧ w.heap.size < w2.heap.size ∧ Below w.heap.size w w2 ∧ w.heap.size ≤ w2.heap.size :=
  Any7.next (w1 := (w.alloc (.cells #[.int .i64 1, .int .i64 x, .int .u64 0, .float .f64 0, .string ⟨#[]⟩, .slice none 0 0, .slice none 0 0] 30)).drew) (any7_new w x) (by simp) ((Below.refl _ _).alloc (Nat.le_refl _) _).drew (by simp) hb
set_option maxRecDepth 100000 in
set_option maxHeartbeats 4000000 in
theorem fnCastOfBool_true (k : Int) (w : World) : Calls Tryz.prog 4 #[.int .i64 k, .bool true] w fun e w' => e = .returned (.bool true) ∧ Below w.heap.size w w' := by
  go_enter Tryz.func4, Tryz.ntmps4
  go_wp2_with fail
  go_region_with (first | (go_at_call 6; refine (castKindInt_any _ _).mono ?_; rintro e w' ⟨⟨κ, hκ1, hκ2, rfl⟩, rfl⟩) | (go_at_call 5; refine (castInt_true _ hκ1 hκ2 _).mono ?_; rintro e w1 ⟨rfl, hb1⟩))
  all_goals
    obtain ⟨ha1, hl1, hB1, hs1⟩ := Any7.first hb1
    clear hb1
    obtain ⟨c0, c1, c2, c3, c4, c5, c6⟩ := id ha1
    go_wp2_with fail
    go_region_with (first | (go_at_call 8; refine (castKindUint_any _ _).mono ?_; rintro e w' ⟨⟨μ, hμ1, hμ2, rfl⟩, rfl⟩) | (go_at_call 7; refine (castUint_true _ hμ1 hμ2 _).mono ?_; rintro e w2 ⟨rfl, hb2⟩))
  all_goals
    obtain ⟨ha2, hl2, hB2, hs2⟩ := Any7.next (w1 := w1.drew) ha1 hl1 hB1.drew hs1 hb2
    clear hb2 c0 c1 c2 c3 c4 c5 c6 ha1 hB1
    obtain ⟨c0, c1, c2, c3, c4, c5, c6⟩ := id ha2
    go_wp2_with fail
    refine (door_float64_true _).mono ?_
    rintro e w3 ⟨rfl, hb3⟩
    obtain ⟨ha3, hl3, hB3, hs3⟩ := Any7.next ha2 hl2 hB2 hs2 hb3
    clear hb3 c0 c1 c2 c3 c4 c5 c6 ha2 hB2
    obtain ⟨c0, c1, c2, c3, c4, c5, c6⟩ := id ha3
    go_wp2_with fail
    refine (door_string_true _).mono ?_
    rintro e w4 ⟨rfl, hb4⟩
    obtain ⟨-, -, hB4, hs4⟩ := Any7.next ha3 hl3 hB3 hs3 hb4
    clear hb4 c0 c1 c2 c3 c4 c5 c6 ha3 hB3
    go_wp2_with fail
    refine (door_bool_strue _).mono ?_
    rintro e w5 ⟨rfl, hb5⟩
    have hB5 := hB4.trans (hb5.mono hs4)
    clear hb5
    go_wp2
    go_ret
    exact ⟨rfl, hB5⟩
end Go.Proofs.YtbaanihpckeiaaaGreatDoor
