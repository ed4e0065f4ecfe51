/-
  NARROWER THAN 'FOR EVERY INPUT', by the rows' own cells (each row's printed sentence says how): FnSpans: laid · FnSpanList: laid.
  DERIVED. THE GIVEN ROWS OF THIS SEAT. 2 by the template 'for every input the law returns true; each argument reads behind the call as it read before'; 0 by the template 'total and deterministic' (their statements: YtjkmidohcidkiaaDoorTotals.lean).
  GIVEN WITH THE SEED: the statements are not yours to turn. If you find one false, say at which input.
  Laid BY PROGRAM, IN A SANDBOX (cutbox-rows.mjs): the forced cells as the released guide's own fill.sh prints them over the translation f81353b23285a971… (all of the seat's roots in one cut). By AI agents, Wed Nov 11 2026. No macro, syntax, notation, axiom, sorry.
-/
import Derived.Test.YtjkmidohcidkiaaDoorChecked
import GoSem.Claim
import GoSem.ClaimJoined
import GoSem.ClaimMapViews
import Derived.JoinedTies
import Derived.KernelRfl
namespace Go.Proofs.YtjkmidohcidkiaaDoor
/- THE CELL 'sum', in the pinned program and in every row, IS THE sha256 OF THE DUMP (.gsa) THAT YtjkmidohcidkiaaDoorProg.lean LOADS. Nothing in Lean hashes anything: it is a label: what it is worth is what the hold of that sum in a sandbox is worth. -/
noncomputable def Tryd.pinned : Pinned := { name := "ytjkmidohcidkiaadoor", sum := "f81353b23285a9715f01152b59e904d9eedb7b25e1e083aff0d7eed526413d74", checked := Tryd.checked }
namespace Rows
def none {H : Type} : Left H := { results := [], args := [] }

/- WHAT THE LISTED PACKAGE-LEVEL VARIABLES READ AS WHEN THE CALL BEGINS. Each datum BY PROGRAM (the guide's laid-datum.mjs) off the statement by which the dump's own 'gosem.cut.vars' lays the variable. In a bare row this is a premise. The card (YtjkmidohcidkiaaDoorCards.lean) ties it to the program's text. -/
def laid_time_errLeadingInt {H : Type} : DataW H := .iface "*errors.errorString" (.ptr (.agg [.lit (.string [116, 105, 109, 101, 58, 32, 98, 97, 100, 32, 91, 48, 45, 57, 93, 42])]))
def laid_time_unitMap {H : Type} : DataW H := .map [(.string [104], .lit (.int .u64 3600000000000)), (.string [109], .lit (.int .u64 60000000000)), (.string [109, 115], .lit (.int .u64 1000000)), (.string [110, 115], .lit (.int .u64 1)), (.string [115], .lit (.int .u64 1000000000)), (.string [117, 115], .lit (.int .u64 1000)), (.string [194, 181, 115], .lit (.int .u64 1000)), (.string [206, 188, 115], .lit (.int .u64 1000))]

/-- 'laws.FnSpans': WHATEVER THE INPUT: true; the input reads as it did. -/
def fnSpansSpec : ChangeSpec := { name := "fnSpans", fn := fun _ => fun
  | [d1, d2] => { results := [.lit (.bool true)], args := [d1, d2] }
  | _ => none }
def fnSpansRow : OpenClaim := { program := "ytjkmidohcidkiaadoor", sum := "f81353b23285a9715f01152b59e904d9eedb7b25e1e083aff0d7eed526413d74", func := "pub-ensign/laws.FnSpans", spec := "fnSpans", unfollowed := true, recurses := true, named := ["time.unitMap", "time.errLeadingInt"], apart := false, laid := [("time.errLeadingInt", laid_time_errLeadingInt), ("time.unitMap", laid_time_unitMap)] }
def FnSpansSaid : Prop := fnSpansRow.holds Tryd.pinned (OpenSpec.ofChange fnSpansSpec)

/-- ITS FALSE NEIGHBOUR: 'it returns false'. Refute it at one input. -/
def fnSpansWrong : ChangeSpec := { name := "fnSpans", fn := fun _ => fun
  | [d1, d2] => { results := [.lit (.bool false)], args := [d1, d2] }
  | _ => none }
def FnSpansWrongFalsely : Prop := fnSpansRow.holds Tryd.pinned (OpenSpec.ofChange fnSpansWrong)

/-- 'laws.FnSpanList': WHATEVER THE INPUT: true; the input reads as it did. -/
def fnSpanListSpec : ChangeSpec := { name := "fnSpanList", fn := fun _ => fun
  | [d1, d2] => { results := [.lit (.bool true)], args := [d1, d2] }
  | _ => none }
def fnSpanListRow : OpenClaim := { program := "ytjkmidohcidkiaadoor", sum := "f81353b23285a9715f01152b59e904d9eedb7b25e1e083aff0d7eed526413d74", func := "pub-ensign/laws.FnSpanList", spec := "fnSpanList", unfollowed := true, recurses := true, named := ["time.unitMap", "time.errLeadingInt"], apart := false, laid := [("time.errLeadingInt", laid_time_errLeadingInt), ("time.unitMap", laid_time_unitMap)] }
def FnSpanListSaid : Prop := fnSpanListRow.holds Tryd.pinned (OpenSpec.ofChange fnSpanListSpec)

/-- ITS FALSE NEIGHBOUR: 'it returns false'. Refute it at one input. -/
def fnSpanListWrong : ChangeSpec := { name := "fnSpanList", fn := fun _ => fun
  | [d1, d2] => { results := [.lit (.bool false)], args := [d1, d2] }
  | _ => none }
def FnSpanListWrongFalsely : Prop := fnSpanListRow.holds Tryd.pinned (OpenSpec.ofChange fnSpanListWrong)

/- THE SECOND FORM. 'bulk': how many values and letters a reading holds, each counted each time it is reached (what is shared counts as often as it is met; a slice's spare places count too). A statement '..UptoSaid' is the law's where the arguments, and the package variables that the reading takes, are together of bulk at most 1048576: NARROWER than '..Said'. Prove '..Said' where nothing that the law and all that it calls make is longer than what came in: it says more and counts as full. Else prove '..UptoSaid'. A law counts once. -/
mutual
def uptoBulk {H : Type} : DataW H → Nat
  | .lit (.string bytes) => bytes.length + 1
  | .lit _ => 1
  | .nil => 1
  | .ptr d => uptoBulk d + 1
  | .slice elems spare => uptoBulkAll elems + uptoBulkAll spare + 1
  | .agg parts => uptoBulkAll parts + 1
  | .iface _ d => uptoBulk d + 1
  | .map entries => uptoBulkEntries entries + 1
  | .held _ => 1
def uptoBulkAll {H : Type} : List (DataW H) → Nat
  | [] => 0
  | d :: r => uptoBulk d + uptoBulkAll r
def uptoBulkEntries {H : Type} : List (Lit × DataW H) → Nat
  | [] => 0
  | x :: r => uptoBulkEntry x + uptoBulkEntries r
def uptoBulkEntry {H : Type} : Lit × DataW H → Nat
  | (.string bytes, d) => bytes.length + uptoBulk d + 1
  | (_, d) => uptoBulk d + 1
 end
def uptoSmall : (H : Type) → List (DataW H) → Bool := fun _ ds => decide (uptoBulkAll ds ≤ 1048576)
def OpenSpec.upto (s : _root_.Go.ChangeSpec) : _root_.Go.OpenSpec := { _root_.Go.OpenSpec.ofChange s with cond := some uptoSmall }

/-- 'laws.FnSpans', WHERE WHAT IT READS IS OF BULK AT MOST 1048576: true; the input reads as it did. -/
def fnSpansUptoRow : OpenClaim := { program := "ytjkmidohcidkiaadoor", sum := "f81353b23285a9715f01152b59e904d9eedb7b25e1e083aff0d7eed526413d74", func := "pub-ensign/laws.FnSpans", spec := "fnSpans", unfollowed := true, recurses := true, named := ["time.unitMap", "time.errLeadingInt"], apart := false, laid := [("time.errLeadingInt", laid_time_errLeadingInt), ("time.unitMap", laid_time_unitMap)], narrowed := true }
def FnSpansUptoSaid : Prop := fnSpansUptoRow.holds Tryd.pinned (OpenSpec.upto fnSpansSpec)

/-- 'laws.FnSpanList', WHERE WHAT IT READS IS OF BULK AT MOST 1048576: true; the input reads as it did. -/
def fnSpanListUptoRow : OpenClaim := { program := "ytjkmidohcidkiaadoor", sum := "f81353b23285a9715f01152b59e904d9eedb7b25e1e083aff0d7eed526413d74", func := "pub-ensign/laws.FnSpanList", spec := "fnSpanList", unfollowed := true, recurses := true, named := ["time.unitMap", "time.errLeadingInt"], apart := false, laid := [("time.errLeadingInt", laid_time_errLeadingInt), ("time.unitMap", laid_time_unitMap)], narrowed := true }
def FnSpanListUptoSaid : Prop := fnSpanListUptoRow.holds Tryd.pinned (OpenSpec.upto fnSpanListSpec)

end Rows
end Go.Proofs.YtjkmidohcidkiaaDoor
