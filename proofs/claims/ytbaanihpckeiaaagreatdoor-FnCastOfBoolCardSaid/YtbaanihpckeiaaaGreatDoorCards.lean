/-
  DERIVED. GIVEN WITH THE SEED: THE CARDS: each row of YtbaanihpckeiaaaGreatDoorRows.lean that lists a variable, with what it lists TIED to the program's text (the seventh form; the later family's looks); each row that meets fmt, with fmt's text TOLD by the authors' own Lean function (tested against real Go, not proved from fmt's source: count such statements apart). THE CARD IS WHAT COUNTS. Prove the row's statement (the work); the ties are given (YtbaanihpckeiaaaGreatDoorTie.lean); close each card by the builder's one call (the guide's Derived/Test/ToyasCard.lean, 'card_holds'). Laid BY PROGRAM, IN A SANDBOX (cutbox-door.mjs). By AI agents, Wed Nov 11 2026. No macro, syntax, notation, axiom, sorry.
-/
import Derived.Test.YtbaanihpckeiaaaGreatDoorRows
import GoSem.ClaimSeven
namespace Go.Proofs.YtbaanihpckeiaaaGreatDoor
namespace Rows

/-- THE TIED CARD OF 'laws.FnCastNil'. -/
def fnCastNilCard : Claim7 := { stood := { row := fnCastNilRow, standIns := [], harness := (true, "0164ef8ebdc849dffad296eaca99d6a16762f2987571264be895858f5bcd8af4"), looks := true }, kinds := [], alts := [], laidByText := true, laidKinds := [.data, .data, .widerDeep, .widerDeep, .data, .data, .data, .data, .data, .sentinel, .sentinel, .pinned, .pinned], laidTests := true, laidLooks := .later }
def FnCastNilCardSaid : Prop := Claim7.holds Tryz.pinned (.plain (OpenSpec.ofChange fnCastNilSpec)) fnCastNilCard

/-- THE TIED CARD OF 'laws.FnCastOfBool'. -/
def fnCastOfBoolCard : Claim7 := { stood := { row := fnCastOfBoolRow, standIns := [], harness := (true, "0164ef8ebdc849dffad296eaca99d6a16762f2987571264be895858f5bcd8af4"), looks := true }, kinds := [], alts := [], laidByText := true, laidKinds := [.data, .data, .widerDeep, .widerDeep, .data, .data, .data, .data, .data, .sentinel, .sentinel, .pinned, .pinned], laidTests := true, laidLooks := .later }
def FnCastOfBoolCardSaid : Prop := Claim7.holds Tryz.pinned (.plain (OpenSpec.ofChange fnCastOfBoolSpec)) fnCastOfBoolCard

/-- THE SECOND FORM's CARD OF 'laws.FnCastNil'. -/
def fnCastNilUptoCard : Claim7 := { stood := { row := fnCastNilUptoRow, standIns := [], harness := (true, "0164ef8ebdc849dffad296eaca99d6a16762f2987571264be895858f5bcd8af4"), looks := true }, kinds := [], alts := [], laidByText := true, laidKinds := [.data, .data, .widerDeep, .widerDeep, .data, .data, .data, .data, .data, .sentinel, .sentinel, .pinned, .pinned], laidTests := true, laidLooks := .later }
def FnCastNilUptoCardSaid : Prop := Claim7.holds Tryz.pinned (.plain (OpenSpec.upto fnCastNilSpec)) fnCastNilUptoCard

/-- THE SECOND FORM's CARD OF 'laws.FnCastOfBool'. -/
def fnCastOfBoolUptoCard : Claim7 := { stood := { row := fnCastOfBoolUptoRow, standIns := [], harness := (true, "0164ef8ebdc849dffad296eaca99d6a16762f2987571264be895858f5bcd8af4"), looks := true }, kinds := [], alts := [], laidByText := true, laidKinds := [.data, .data, .widerDeep, .widerDeep, .data, .data, .data, .data, .data, .sentinel, .sentinel, .pinned, .pinned], laidTests := true, laidLooks := .later }
def FnCastOfBoolUptoCardSaid : Prop := Claim7.holds Tryz.pinned (.plain (OpenSpec.upto fnCastOfBoolSpec)) fnCastOfBoolUptoCard
end Rows
end Go.Proofs.YtbaanihpckeiaaaGreatDoor
