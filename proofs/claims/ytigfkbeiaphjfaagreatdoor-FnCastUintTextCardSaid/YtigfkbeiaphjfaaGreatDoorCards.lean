/-
  DERIVED. GIVEN WITH THE SEED: THE CARDS: each row of YtigfkbeiaphjfaaGreatDoorRows.lean that lists a variable, with what it lists TIED to the program's text (the seventh form; the later family's looks); each row that meets fmt, with fmt's text TOLD by the authors' own Lean function (tested against real Go, not proved from fmt's source: count such statements apart). THE CARD IS WHAT COUNTS. Prove the row's statement (the work); the ties are given (YtigfkbeiaphjfaaGreatDoorTie.lean); close each card by the builder's one call (the guide's Derived/Test/ToyasCard.lean, 'card_holds'). Laid BY PROGRAM, IN A SANDBOX (cutbox-door.mjs). By AI agents, Wed Nov 11 2026. No macro, syntax, notation, axiom, sorry.
-/
import Derived.Test.YtigfkbeiaphjfaaGreatDoorRows
import GoSem.ClaimSeven
namespace Go.Proofs.YtigfkbeiaphjfaaGreatDoor
namespace Rows

/-- THE TIED CARD OF 'laws.FnCastTextSame'. -/
def fnCastTextSameCard : Claim7 := { stood := { row := fnCastTextSameRow, standIns := [], harness := (true, "84ea5a753a9c26e7447f1a72cdecfecdadf2048445bb06394e3d841a8bc1c1a7"), looks := true }, kinds := [], alts := [], laidByText := true, laidKinds := [.data, .data, .data, .data, .sentinel, .sentinel, .pinned, .pinned], laidTests := true, laidLooks := .later }
def FnCastTextSameCardSaid : Prop := Claim7.holds Tryz.pinned (.plain (OpenSpec.ofChange fnCastTextSameSpec)) fnCastTextSameCard

/-- THE TIED CARD OF 'laws.FnCastPointer'. -/
def fnCastPointerCard : Claim7 := { stood := { row := fnCastPointerRow, standIns := [], harness := (true, "84ea5a753a9c26e7447f1a72cdecfecdadf2048445bb06394e3d841a8bc1c1a7"), looks := true }, kinds := [], alts := [], laidByText := true, laidKinds := [.data, .data, .data, .data, .sentinel, .sentinel, .pinned, .pinned], laidTests := true, laidLooks := .later }
def FnCastPointerCardSaid : Prop := Claim7.holds Tryz.pinned (.plain (OpenSpec.ofChange fnCastPointerSpec)) fnCastPointerCard

/-- THE TIED CARD OF 'laws.FnCastUintText'. -/
def fnCastUintTextCard : Claim7 := { stood := { row := fnCastUintTextRow, standIns := [], harness := (true, "84ea5a753a9c26e7447f1a72cdecfecdadf2048445bb06394e3d841a8bc1c1a7"), looks := true }, kinds := [], alts := [], laidByText := true, laidKinds := [.data, .data, .data, .data, .sentinel, .sentinel, .pinned, .pinned], laidTests := true, laidLooks := .later }
def FnCastUintTextCardSaid : Prop := Claim7.holds Tryz.pinned (.plain (OpenSpec.ofChange fnCastUintTextSpec)) fnCastUintTextCard

/-- THE SECOND FORM's CARD OF 'laws.FnCastTextSame'. -/
def fnCastTextSameUptoCard : Claim7 := { stood := { row := fnCastTextSameUptoRow, standIns := [], harness := (true, "84ea5a753a9c26e7447f1a72cdecfecdadf2048445bb06394e3d841a8bc1c1a7"), looks := true }, kinds := [], alts := [], laidByText := true, laidKinds := [.data, .data, .data, .data, .sentinel, .sentinel, .pinned, .pinned], laidTests := true, laidLooks := .later }
def FnCastTextSameUptoCardSaid : Prop := Claim7.holds Tryz.pinned (.plain (OpenSpec.upto fnCastTextSameSpec)) fnCastTextSameUptoCard

/-- THE SECOND FORM's CARD OF 'laws.FnCastPointer'. -/
def fnCastPointerUptoCard : Claim7 := { stood := { row := fnCastPointerUptoRow, standIns := [], harness := (true, "84ea5a753a9c26e7447f1a72cdecfecdadf2048445bb06394e3d841a8bc1c1a7"), looks := true }, kinds := [], alts := [], laidByText := true, laidKinds := [.data, .data, .data, .data, .sentinel, .sentinel, .pinned, .pinned], laidTests := true, laidLooks := .later }
def FnCastPointerUptoCardSaid : Prop := Claim7.holds Tryz.pinned (.plain (OpenSpec.upto fnCastPointerSpec)) fnCastPointerUptoCard

/-- THE SECOND FORM's CARD OF 'laws.FnCastUintText'. -/
def fnCastUintTextUptoCard : Claim7 := { stood := { row := fnCastUintTextUptoRow, standIns := [], harness := (true, "84ea5a753a9c26e7447f1a72cdecfecdadf2048445bb06394e3d841a8bc1c1a7"), looks := true }, kinds := [], alts := [], laidByText := true, laidKinds := [.data, .data, .data, .data, .sentinel, .sentinel, .pinned, .pinned], laidTests := true, laidLooks := .later }
def FnCastUintTextUptoCardSaid : Prop := Claim7.holds Tryz.pinned (.plain (OpenSpec.upto fnCastUintTextSpec)) fnCastUintTextUptoCard
end Rows
end Go.Proofs.YtigfkbeiaphjfaaGreatDoor
