/-
  DERIVED. GIVEN WITH THE SEED: THE CARDS: each row of YtjkmidohcidkiaaDoorRows.lean that lists a variable, with what it lists TIED to the program's text (the seventh form; the later family's looks); each row that meets fmt, with fmt's text TOLD by the authors' own Lean function (tested against real Go, not proved from fmt's source: count such statements apart). THE CARD IS WHAT COUNTS. Prove the row's statement (the work); the ties are given (YtjkmidohcidkiaaDoorTie.lean); close each card by the builder's one call (the guide's Derived/Test/ToyasCard.lean, 'card_holds'). Laid BY PROGRAM, IN A SANDBOX (cutbox-door.mjs). By AI agents, Wed Nov 11 2026. No macro, syntax, notation, axiom, sorry.
-/
import Derived.Test.YtjkmidohcidkiaaDoorRows
import GoSem.ClaimSeven
namespace Go.Proofs.YtjkmidohcidkiaaDoor
namespace Rows

/-- THE TIED CARD OF 'laws.FnSpans'. -/
def fnSpansCard : Claim7 := { stood := { row := fnSpansRow, standIns := [], harness := (true, "0410bcc8208a195be8cb5389ef86d37ffec65f3cd14760fee55f0b7ba8f3a747"), looks := false }, kinds := [], alts := [], laidByText := true, laidKinds := [.sentinel, .mapped], laidTests := true, laidLooks := .later }
def FnSpansCardSaid : Prop := Claim7.holds Tryd.pinned (.plain (OpenSpec.ofChange fnSpansSpec)) fnSpansCard

/-- THE TIED CARD OF 'laws.FnSpanList'. -/
def fnSpanListCard : Claim7 := { stood := { row := fnSpanListRow, standIns := [], harness := (true, "0410bcc8208a195be8cb5389ef86d37ffec65f3cd14760fee55f0b7ba8f3a747"), looks := false }, kinds := [], alts := [], laidByText := true, laidKinds := [.sentinel, .mapped], laidTests := true, laidLooks := .later }
def FnSpanListCardSaid : Prop := Claim7.holds Tryd.pinned (.plain (OpenSpec.ofChange fnSpanListSpec)) fnSpanListCard

/-- THE SECOND FORM's CARD OF 'laws.FnSpans'. -/
def fnSpansUptoCard : Claim7 := { stood := { row := fnSpansUptoRow, standIns := [], harness := (true, "0410bcc8208a195be8cb5389ef86d37ffec65f3cd14760fee55f0b7ba8f3a747"), looks := false }, kinds := [], alts := [], laidByText := true, laidKinds := [.sentinel, .mapped], laidTests := true, laidLooks := .later }
def FnSpansUptoCardSaid : Prop := Claim7.holds Tryd.pinned (.plain (OpenSpec.upto fnSpansSpec)) fnSpansUptoCard

/-- THE SECOND FORM's CARD OF 'laws.FnSpanList'. -/
def fnSpanListUptoCard : Claim7 := { stood := { row := fnSpanListUptoRow, standIns := [], harness := (true, "0410bcc8208a195be8cb5389ef86d37ffec65f3cd14760fee55f0b7ba8f3a747"), looks := false }, kinds := [], alts := [], laidByText := true, laidKinds := [.sentinel, .mapped], laidTests := true, laidLooks := .later }
def FnSpanListUptoCardSaid : Prop := Claim7.holds Tryd.pinned (.plain (OpenSpec.upto fnSpanListSpec)) fnSpanListUptoCard
end Rows
end Go.Proofs.YtjkmidohcidkiaaDoor
