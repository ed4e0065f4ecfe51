/-
  DERIVED. GIVEN WITH THE SEED: THE CARDS: each row of YtcfknhboicomjaaGreatDoorRows.lean that lists a variable, with what it lists TIED to the program's text (the seventh form; the later family's looks); each row that meets fmt, with fmt's text TOLD by the authors' own Lean function (tested against real Go, not proved from fmt's source: count such statements apart). THE CARD IS WHAT COUNTS. Prove the row's statement (the work); the ties are given (YtcfknhboicomjaaGreatDoorTie.lean); close each card by the builder's one call (the guide's Derived/Test/ToyasCard.lean, 'card_holds'). Laid BY PROGRAM, IN A SANDBOX (cutbox-door.mjs). By AI agents, Wed Nov 11 2026. No macro, syntax, notation, axiom, sorry.
-/
import Derived.Test.YtcfknhboicomjaaGreatDoorRows
import GoSem.ClaimSeven
namespace Go.Proofs.YtcfknhboicomjaaGreatDoor
namespace Rows

/-- THE TIED CARD OF 'laws.FnCastMapInt64s'. -/
def fnCastMapInt64sCard : Claim7 := { stood := { row := fnCastMapInt64sRow, standIns := [], harness := (true, "2eed9e4a6476620da735d8af238b1d9760194a7ee5f0b22e61b451beffc56271"), looks := true }, kinds := [], alts := [], laidByText := true, laidKinds := [.data, .data, .data, .data, .sentinel, .sentinel, .pinned, .pinned], laidTests := true, laidLooks := .later }
def FnCastMapInt64sCardSaid : Prop := Claim7.holds Tryz.pinned (.plain (OpenSpec.ofChange fnCastMapInt64sSpec)) fnCastMapInt64sCard

/-- THE TIED CARD OF 'laws.FnCastMapInts'. -/
def fnCastMapIntsCard : Claim7 := { stood := { row := fnCastMapIntsRow, standIns := [], harness := (true, "2eed9e4a6476620da735d8af238b1d9760194a7ee5f0b22e61b451beffc56271"), looks := true }, kinds := [], alts := [], laidByText := true, laidKinds := [.data, .data, .data, .data, .sentinel, .sentinel, .pinned, .pinned], laidTests := true, laidLooks := .later }
def FnCastMapIntsCardSaid : Prop := Claim7.holds Tryz.pinned (.plain (OpenSpec.ofChange fnCastMapIntsSpec)) fnCastMapIntsCard

/-- THE TIED CARD OF 'laws.FnCastFloatText'. -/
def fnCastFloatTextCard : Claim7 := { stood := { row := fnCastFloatTextRow, standIns := [], harness := (true, "2eed9e4a6476620da735d8af238b1d9760194a7ee5f0b22e61b451beffc56271"), looks := true }, kinds := [], alts := [], laidByText := true, laidKinds := [.data, .data, .widerDeep, .widerDeep, .data, .data, .data, .data, .data, .sentinel, .sentinel, .pinned, .pinned], laidTests := true, laidLooks := .later }
def FnCastFloatTextCardSaid : Prop := Claim7.holds Tryz.pinned (.plain (OpenSpec.ofChange fnCastFloatTextSpec)) fnCastFloatTextCard

/-- THE SECOND FORM's CARD OF 'laws.FnCastMapInt64s'. -/
def fnCastMapInt64sUptoCard : Claim7 := { stood := { row := fnCastMapInt64sUptoRow, standIns := [], harness := (true, "2eed9e4a6476620da735d8af238b1d9760194a7ee5f0b22e61b451beffc56271"), looks := true }, kinds := [], alts := [], laidByText := true, laidKinds := [.data, .data, .data, .data, .sentinel, .sentinel, .pinned, .pinned], laidTests := true, laidLooks := .later }
def FnCastMapInt64sUptoCardSaid : Prop := Claim7.holds Tryz.pinned (.plain (OpenSpec.upto fnCastMapInt64sSpec)) fnCastMapInt64sUptoCard

/-- THE SECOND FORM's CARD OF 'laws.FnCastMapInts'. -/
def fnCastMapIntsUptoCard : Claim7 := { stood := { row := fnCastMapIntsUptoRow, standIns := [], harness := (true, "2eed9e4a6476620da735d8af238b1d9760194a7ee5f0b22e61b451beffc56271"), looks := true }, kinds := [], alts := [], laidByText := true, laidKinds := [.data, .data, .data, .data, .sentinel, .sentinel, .pinned, .pinned], laidTests := true, laidLooks := .later }
def FnCastMapIntsUptoCardSaid : Prop := Claim7.holds Tryz.pinned (.plain (OpenSpec.upto fnCastMapIntsSpec)) fnCastMapIntsUptoCard

/-- THE SECOND FORM's CARD OF 'laws.FnCastFloatText'. -/
def fnCastFloatTextUptoCard : Claim7 := { stood := { row := fnCastFloatTextUptoRow, standIns := [], harness := (true, "2eed9e4a6476620da735d8af238b1d9760194a7ee5f0b22e61b451beffc56271"), looks := true }, kinds := [], alts := [], laidByText := true, laidKinds := [.data, .data, .widerDeep, .widerDeep, .data, .data, .data, .data, .data, .sentinel, .sentinel, .pinned, .pinned], laidTests := true, laidLooks := .later }
def FnCastFloatTextUptoCardSaid : Prop := Claim7.holds Tryz.pinned (.plain (OpenSpec.upto fnCastFloatTextSpec)) fnCastFloatTextUptoCard
end Rows
end Go.Proofs.YtcfknhboicomjaaGreatDoor
