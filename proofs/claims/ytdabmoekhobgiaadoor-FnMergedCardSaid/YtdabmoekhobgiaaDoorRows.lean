/-
  NARROWER THAN 'FOR EVERY INPUT', by the rows' own cells (each row's printed sentence says how): FnBlocksTurn: laid · FnTurnsSettle: laid · FnCasesExchanged: laid · FnMoved: laid · FnManyRanges: laid · FnStandardAsList: laid · FnTabulated: laid · FnScripts: laid · FnOverlaid: laid · FnUndone: laid · FnAlphabet: laid · FnMerged: laid.
  DERIVED. THE GIVEN ROWS OF THIS SEAT. 12 by the template 'for every input the law returns true; each argument reads behind the call as it read before'; 0 by the template 'total and deterministic' (their statements: YtdabmoekhobgiaaDoorTotals.lean).
  GIVEN WITH THE SEED: the statements are not yours to turn. If you find one false, say at which input.
  Laid BY PROGRAM, IN A SANDBOX (cutbox-rows.mjs): the forced cells as the released guide's own fill.sh prints them over the translation 4b7bf29a823db538… (all of the seat's roots in one cut). By AI agents, Wed Nov 11 2026. No macro, syntax, notation, axiom, sorry.
-/
import Derived.Test.YtdabmoekhobgiaaDoorChecked
import GoSem.PinnedTables
import GoSem.Claim
import GoSem.ClaimJoined
import GoSem.ClaimMapViews
import Derived.JoinedTies
import Derived.KernelRfl
namespace Go.Proofs.YtdabmoekhobgiaaDoor
/- THE CELL 'sum', in the pinned program and in every row, IS THE sha256 OF THE DUMP (.gsa) THAT YtdabmoekhobgiaaDoorProg.lean LOADS. Nothing in Lean hashes anything: it is a label: what it is worth is what the hold of that sum in a sandbox is worth. -/
noncomputable def Tryd.pinned : Pinned := { name := "ytdabmoekhobgiaadoor", sum := "4b7bf29a823db5382d2194aae9c9bb51f0625611df8df97b43b2b994b26d7024", checked := Tryd.checked }
namespace Rows
def none {H : Type} : Left H := { results := [], args := [] }

/- WHAT THE LISTED PACKAGE-LEVEL VARIABLES READ AS WHEN THE CALL BEGINS. Each datum BY PROGRAM (the guide's laid-datum.mjs) off the statement by which the dump's own 'gosem.cut.vars' lays the variable. In a bare row this is a premise. The card (YtdabmoekhobgiaaDoorCards.lean) ties it to the program's text. -/
/-- One of Go's own tables, pinned by name: the form's constant. -/
def laid_unicode_CaseRanges : DataW Unit := Go.Pinned.caseRanges

/-- 'laws.FnBlocksTurn': WHATEVER THE INPUT: true; the input reads as it did. -/
def fnBlocksTurnSpec : ChangeSpec := { name := "fnBlocksTurn", fn := fun _ => fun
  | [d1, d2, d3, d4, d5] => { results := [.lit (.bool true)], args := [d1, d2, d3, d4, d5] }
  | _ => none }
def fnBlocksTurnRow : OpenClaim := { program := "ytdabmoekhobgiaadoor", sum := "4b7bf29a823db5382d2194aae9c9bb51f0625611df8df97b43b2b994b26d7024", func := "lib-lettermill/laws.FnBlocksTurn", spec := "fnBlocksTurn", named := ["unicode.CaseRanges"], apart := false, laid := [("unicode.CaseRanges", laid_unicode_CaseRanges)] }
def FnBlocksTurnSaid : Prop := fnBlocksTurnRow.holds Tryd.pinned (OpenSpec.ofChange fnBlocksTurnSpec)

/-- ITS FALSE NEIGHBOUR: 'it returns false'. Refute it at one input. -/
def fnBlocksTurnWrong : ChangeSpec := { name := "fnBlocksTurn", fn := fun _ => fun
  | [d1, d2, d3, d4, d5] => { results := [.lit (.bool false)], args := [d1, d2, d3, d4, d5] }
  | _ => none }
def FnBlocksTurnWrongFalsely : Prop := fnBlocksTurnRow.holds Tryd.pinned (OpenSpec.ofChange fnBlocksTurnWrong)

/-- 'laws.FnTurnsSettle': WHATEVER THE INPUT: true; the input reads as it did. -/
def fnTurnsSettleSpec : ChangeSpec := { name := "fnTurnsSettle", fn := fun _ => fun
  | [d1, d2, d3, d4] => { results := [.lit (.bool true)], args := [d1, d2, d3, d4] }
  | _ => none }
def fnTurnsSettleRow : OpenClaim := { program := "ytdabmoekhobgiaadoor", sum := "4b7bf29a823db5382d2194aae9c9bb51f0625611df8df97b43b2b994b26d7024", func := "lib-lettermill/laws.FnTurnsSettle", spec := "fnTurnsSettle", named := ["unicode.CaseRanges"], apart := false, laid := [("unicode.CaseRanges", laid_unicode_CaseRanges)] }
def FnTurnsSettleSaid : Prop := fnTurnsSettleRow.holds Tryd.pinned (OpenSpec.ofChange fnTurnsSettleSpec)

/-- ITS FALSE NEIGHBOUR: 'it returns false'. Refute it at one input. -/
def fnTurnsSettleWrong : ChangeSpec := { name := "fnTurnsSettle", fn := fun _ => fun
  | [d1, d2, d3, d4] => { results := [.lit (.bool false)], args := [d1, d2, d3, d4] }
  | _ => none }
def FnTurnsSettleWrongFalsely : Prop := fnTurnsSettleRow.holds Tryd.pinned (OpenSpec.ofChange fnTurnsSettleWrong)

/-- 'laws.FnCasesExchanged': WHATEVER THE INPUT: true; the input reads as it did. -/
def fnCasesExchangedSpec : ChangeSpec := { name := "fnCasesExchanged", fn := fun _ => fun
  | [d1, d2, d3] => { results := [.lit (.bool true)], args := [d1, d2, d3] }
  | _ => none }
def fnCasesExchangedRow : OpenClaim := { program := "ytdabmoekhobgiaadoor", sum := "4b7bf29a823db5382d2194aae9c9bb51f0625611df8df97b43b2b994b26d7024", func := "lib-lettermill/laws.FnCasesExchanged", spec := "fnCasesExchanged", named := ["unicode.CaseRanges"], apart := false, laid := [("unicode.CaseRanges", laid_unicode_CaseRanges)] }
def FnCasesExchangedSaid : Prop := fnCasesExchangedRow.holds Tryd.pinned (OpenSpec.ofChange fnCasesExchangedSpec)

/-- ITS FALSE NEIGHBOUR: 'it returns false'. Refute it at one input. -/
def fnCasesExchangedWrong : ChangeSpec := { name := "fnCasesExchanged", fn := fun _ => fun
  | [d1, d2, d3] => { results := [.lit (.bool false)], args := [d1, d2, d3] }
  | _ => none }
def FnCasesExchangedWrongFalsely : Prop := fnCasesExchangedRow.holds Tryd.pinned (OpenSpec.ofChange fnCasesExchangedWrong)

/-- 'laws.FnMoved': WHATEVER THE INPUT: true; the input reads as it did. -/
def fnMovedSpec : ChangeSpec := { name := "fnMoved", fn := fun _ => fun
  | [d1, d2, d3] => { results := [.lit (.bool true)], args := [d1, d2, d3] }
  | _ => none }
def fnMovedRow : OpenClaim := { program := "ytdabmoekhobgiaadoor", sum := "4b7bf29a823db5382d2194aae9c9bb51f0625611df8df97b43b2b994b26d7024", func := "lib-lettermill/laws.FnMoved", spec := "fnMoved", named := ["unicode.CaseRanges"], apart := false, laid := [("unicode.CaseRanges", laid_unicode_CaseRanges)] }
def FnMovedSaid : Prop := fnMovedRow.holds Tryd.pinned (OpenSpec.ofChange fnMovedSpec)

/-- ITS FALSE NEIGHBOUR: 'it returns false'. Refute it at one input. -/
def fnMovedWrong : ChangeSpec := { name := "fnMoved", fn := fun _ => fun
  | [d1, d2, d3] => { results := [.lit (.bool false)], args := [d1, d2, d3] }
  | _ => none }
def FnMovedWrongFalsely : Prop := fnMovedRow.holds Tryd.pinned (OpenSpec.ofChange fnMovedWrong)

/-- 'laws.FnManyRanges': WHATEVER THE INPUT: true; the input reads as it did. -/
def fnManyRangesSpec : ChangeSpec := { name := "fnManyRanges", fn := fun _ => fun
  | [d1, d2, d3, d4] => { results := [.lit (.bool true)], args := [d1, d2, d3, d4] }
  | _ => none }
def fnManyRangesRow : OpenClaim := { program := "ytdabmoekhobgiaadoor", sum := "4b7bf29a823db5382d2194aae9c9bb51f0625611df8df97b43b2b994b26d7024", func := "lib-lettermill/laws.FnManyRanges", spec := "fnManyRanges", named := ["unicode.CaseRanges"], apart := false, laid := [("unicode.CaseRanges", laid_unicode_CaseRanges)] }
def FnManyRangesSaid : Prop := fnManyRangesRow.holds Tryd.pinned (OpenSpec.ofChange fnManyRangesSpec)

/-- ITS FALSE NEIGHBOUR: 'it returns false'. Refute it at one input. -/
def fnManyRangesWrong : ChangeSpec := { name := "fnManyRanges", fn := fun _ => fun
  | [d1, d2, d3, d4] => { results := [.lit (.bool false)], args := [d1, d2, d3, d4] }
  | _ => none }
def FnManyRangesWrongFalsely : Prop := fnManyRangesRow.holds Tryd.pinned (OpenSpec.ofChange fnManyRangesWrong)

/-- 'laws.FnStandardAsList': WHATEVER THE INPUT: true; the input reads as it did. -/
def fnStandardAsListSpec : ChangeSpec := { name := "fnStandardAsList", fn := fun _ => fun
  | [d1, d2, d3] => { results := [.lit (.bool true)], args := [d1, d2, d3] }
  | _ => none }
def fnStandardAsListRow : OpenClaim := { program := "ytdabmoekhobgiaadoor", sum := "4b7bf29a823db5382d2194aae9c9bb51f0625611df8df97b43b2b994b26d7024", func := "lib-lettermill/laws.FnStandardAsList", spec := "fnStandardAsList", named := ["unicode.CaseRanges"], apart := false, laid := [("unicode.CaseRanges", laid_unicode_CaseRanges)] }
def FnStandardAsListSaid : Prop := fnStandardAsListRow.holds Tryd.pinned (OpenSpec.ofChange fnStandardAsListSpec)

/-- ITS FALSE NEIGHBOUR: 'it returns false'. Refute it at one input. -/
def fnStandardAsListWrong : ChangeSpec := { name := "fnStandardAsList", fn := fun _ => fun
  | [d1, d2, d3] => { results := [.lit (.bool false)], args := [d1, d2, d3] }
  | _ => none }
def FnStandardAsListWrongFalsely : Prop := fnStandardAsListRow.holds Tryd.pinned (OpenSpec.ofChange fnStandardAsListWrong)

/-- 'laws.FnTabulated': WHATEVER THE INPUT: true; the input reads as it did. -/
def fnTabulatedSpec : ChangeSpec := { name := "fnTabulated", fn := fun _ => fun
  | [d1, d2, d3, d4, d5] => { results := [.lit (.bool true)], args := [d1, d2, d3, d4, d5] }
  | _ => none }
def fnTabulatedRow : OpenClaim := { program := "ytdabmoekhobgiaadoor", sum := "4b7bf29a823db5382d2194aae9c9bb51f0625611df8df97b43b2b994b26d7024", func := "lib-lettermill/laws.FnTabulated", spec := "fnTabulated", named := ["unicode.CaseRanges"], apart := false, laid := [("unicode.CaseRanges", laid_unicode_CaseRanges)] }
def FnTabulatedSaid : Prop := fnTabulatedRow.holds Tryd.pinned (OpenSpec.ofChange fnTabulatedSpec)

/-- ITS FALSE NEIGHBOUR: 'it returns false'. Refute it at one input. -/
def fnTabulatedWrong : ChangeSpec := { name := "fnTabulated", fn := fun _ => fun
  | [d1, d2, d3, d4, d5] => { results := [.lit (.bool false)], args := [d1, d2, d3, d4, d5] }
  | _ => none }
def FnTabulatedWrongFalsely : Prop := fnTabulatedRow.holds Tryd.pinned (OpenSpec.ofChange fnTabulatedWrong)

/-- 'laws.FnScripts': WHATEVER THE INPUT: true; the input reads as it did. -/
def fnScriptsSpec : ChangeSpec := { name := "fnScripts", fn := fun _ => fun
  | [d1, d2, d3] => { results := [.lit (.bool true)], args := [d1, d2, d3] }
  | _ => none }
def fnScriptsRow : OpenClaim := { program := "ytdabmoekhobgiaadoor", sum := "4b7bf29a823db5382d2194aae9c9bb51f0625611df8df97b43b2b994b26d7024", func := "lib-lettermill/laws.FnScripts", spec := "fnScripts", named := ["unicode.CaseRanges"], apart := false, laid := [("unicode.CaseRanges", laid_unicode_CaseRanges)] }
def FnScriptsSaid : Prop := fnScriptsRow.holds Tryd.pinned (OpenSpec.ofChange fnScriptsSpec)

/-- ITS FALSE NEIGHBOUR: 'it returns false'. Refute it at one input. -/
def fnScriptsWrong : ChangeSpec := { name := "fnScripts", fn := fun _ => fun
  | [d1, d2, d3] => { results := [.lit (.bool false)], args := [d1, d2, d3] }
  | _ => none }
def FnScriptsWrongFalsely : Prop := fnScriptsRow.holds Tryd.pinned (OpenSpec.ofChange fnScriptsWrong)

/-- 'laws.FnOverlaid': WHATEVER THE INPUT: true; the input reads as it did. -/
def fnOverlaidSpec : ChangeSpec := { name := "fnOverlaid", fn := fun _ => fun
  | [d1, d2, d3] => { results := [.lit (.bool true)], args := [d1, d2, d3] }
  | _ => none }
def fnOverlaidRow : OpenClaim := { program := "ytdabmoekhobgiaadoor", sum := "4b7bf29a823db5382d2194aae9c9bb51f0625611df8df97b43b2b994b26d7024", func := "lib-lettermill/laws.FnOverlaid", spec := "fnOverlaid", unfollowed := true, recurses := true, named := ["unicode.CaseRanges"], apart := false, laid := [("unicode.CaseRanges", laid_unicode_CaseRanges)] }
def FnOverlaidSaid : Prop := fnOverlaidRow.holds Tryd.pinned (OpenSpec.ofChange fnOverlaidSpec)

/-- ITS FALSE NEIGHBOUR: 'it returns false'. Refute it at one input. -/
def fnOverlaidWrong : ChangeSpec := { name := "fnOverlaid", fn := fun _ => fun
  | [d1, d2, d3] => { results := [.lit (.bool false)], args := [d1, d2, d3] }
  | _ => none }
def FnOverlaidWrongFalsely : Prop := fnOverlaidRow.holds Tryd.pinned (OpenSpec.ofChange fnOverlaidWrong)

/-- 'laws.FnUndone': WHATEVER THE INPUT: true; the input reads as it did. -/
def fnUndoneSpec : ChangeSpec := { name := "fnUndone", fn := fun _ => fun
  | [d1, d2] => { results := [.lit (.bool true)], args := [d1, d2] }
  | _ => none }
def fnUndoneRow : OpenClaim := { program := "ytdabmoekhobgiaadoor", sum := "4b7bf29a823db5382d2194aae9c9bb51f0625611df8df97b43b2b994b26d7024", func := "lib-lettermill/laws.FnUndone", spec := "fnUndone", unfollowed := true, recurses := true, named := ["unicode.CaseRanges"], apart := false, laid := [("unicode.CaseRanges", laid_unicode_CaseRanges)] }
def FnUndoneSaid : Prop := fnUndoneRow.holds Tryd.pinned (OpenSpec.ofChange fnUndoneSpec)

/-- ITS FALSE NEIGHBOUR: 'it returns false'. Refute it at one input. -/
def fnUndoneWrong : ChangeSpec := { name := "fnUndone", fn := fun _ => fun
  | [d1, d2] => { results := [.lit (.bool false)], args := [d1, d2] }
  | _ => none }
def FnUndoneWrongFalsely : Prop := fnUndoneRow.holds Tryd.pinned (OpenSpec.ofChange fnUndoneWrong)

/-- 'laws.FnAlphabet': WHATEVER THE INPUT: true; the input reads as it did. -/
def fnAlphabetSpec : ChangeSpec := { name := "fnAlphabet", fn := fun _ => fun
  | [d1, d2, d3, d4, d5] => { results := [.lit (.bool true)], args := [d1, d2, d3, d4, d5] }
  | _ => none }
def fnAlphabetRow : OpenClaim := { program := "ytdabmoekhobgiaadoor", sum := "4b7bf29a823db5382d2194aae9c9bb51f0625611df8df97b43b2b994b26d7024", func := "lib-lettermill/laws.FnAlphabet", spec := "fnAlphabet", unfollowed := true, recurses := true, named := ["unicode.CaseRanges"], apart := false, laid := [("unicode.CaseRanges", laid_unicode_CaseRanges)] }
def FnAlphabetSaid : Prop := fnAlphabetRow.holds Tryd.pinned (OpenSpec.ofChange fnAlphabetSpec)

/-- ITS FALSE NEIGHBOUR: 'it returns false'. Refute it at one input. -/
def fnAlphabetWrong : ChangeSpec := { name := "fnAlphabet", fn := fun _ => fun
  | [d1, d2, d3, d4, d5] => { results := [.lit (.bool false)], args := [d1, d2, d3, d4, d5] }
  | _ => none }
def FnAlphabetWrongFalsely : Prop := fnAlphabetRow.holds Tryd.pinned (OpenSpec.ofChange fnAlphabetWrong)

/-- 'laws.FnMerged': WHATEVER THE INPUT: true; the input reads as it did. -/
def fnMergedSpec : ChangeSpec := { name := "fnMerged", fn := fun _ => fun
  | [d1, d2, d3] => { results := [.lit (.bool true)], args := [d1, d2, d3] }
  | _ => none }
def fnMergedRow : OpenClaim := { program := "ytdabmoekhobgiaadoor", sum := "4b7bf29a823db5382d2194aae9c9bb51f0625611df8df97b43b2b994b26d7024", func := "lib-lettermill/laws.FnMerged", spec := "fnMerged", unfollowed := true, recurses := true, named := ["unicode.CaseRanges"], apart := false, laid := [("unicode.CaseRanges", laid_unicode_CaseRanges)] }
def FnMergedSaid : Prop := fnMergedRow.holds Tryd.pinned (OpenSpec.ofChange fnMergedSpec)

/-- ITS FALSE NEIGHBOUR: 'it returns false'. Refute it at one input. -/
def fnMergedWrong : ChangeSpec := { name := "fnMerged", fn := fun _ => fun
  | [d1, d2, d3] => { results := [.lit (.bool false)], args := [d1, d2, d3] }
  | _ => none }
def FnMergedWrongFalsely : Prop := fnMergedRow.holds Tryd.pinned (OpenSpec.ofChange fnMergedWrong)

/- THE SECOND FORM. 'bulk': how many values and letters a reading holds, each counted each time it is reached (what is shared counts as often as it is met; a slice's spare places count too). A statement '..UptoSaid' is the law's where the arguments, and the package variables that the reading takes, are together of bulk at most 1048576: NARROWER than '..Said'. Prove '..Said' where nothing that the law and all that it calls make is longer than what came in: it says more and counts as full. Else prove '..UptoSaid'. A law counts once. -/
mutual
def uptoBulk {H : Type} : DataW H → Nat
  | .lit (.string bytes) => bytes.length + 1
  | .lit _ => 1
  | .nil => 1
  | .ptr d => uptoBulk d + 1
  | .slice elems spare => uptoBulkAll elems + uptoBulkAll spare + 1
  | .agg parts => uptoBulkAll parts + 1
  | .iface _ d => uptoBulk d + 1
  | .map entries => uptoBulkEntries entries + 1
  | .held _ => 1
def uptoBulkAll {H : Type} : List (DataW H) → Nat
  | [] => 0
  | d :: r => uptoBulk d + uptoBulkAll r
def uptoBulkEntries {H : Type} : List (Lit × DataW H) → Nat
  | [] => 0
  | x :: r => uptoBulkEntry x + uptoBulkEntries r
def uptoBulkEntry {H : Type} : Lit × DataW H → Nat
  | (.string bytes, d) => bytes.length + uptoBulk d + 1
  | (_, d) => uptoBulk d + 1
 end
def uptoSmall : (H : Type) → List (DataW H) → Bool := fun _ ds => decide (uptoBulkAll ds ≤ 1048576)
def OpenSpec.upto (s : _root_.Go.ChangeSpec) : _root_.Go.OpenSpec := { _root_.Go.OpenSpec.ofChange s with cond := some uptoSmall }

/-- 'laws.FnBlocksTurn', WHERE WHAT IT READS IS OF BULK AT MOST 1048576: true; the input reads as it did. -/
def fnBlocksTurnUptoRow : OpenClaim := { program := "ytdabmoekhobgiaadoor", sum := "4b7bf29a823db5382d2194aae9c9bb51f0625611df8df97b43b2b994b26d7024", func := "lib-lettermill/laws.FnBlocksTurn", spec := "fnBlocksTurn", named := ["unicode.CaseRanges"], apart := false, laid := [("unicode.CaseRanges", laid_unicode_CaseRanges)], narrowed := true }
def FnBlocksTurnUptoSaid : Prop := fnBlocksTurnUptoRow.holds Tryd.pinned (OpenSpec.upto fnBlocksTurnSpec)

/-- 'laws.FnTurnsSettle', WHERE WHAT IT READS IS OF BULK AT MOST 1048576: true; the input reads as it did. -/
def fnTurnsSettleUptoRow : OpenClaim := { program := "ytdabmoekhobgiaadoor", sum := "4b7bf29a823db5382d2194aae9c9bb51f0625611df8df97b43b2b994b26d7024", func := "lib-lettermill/laws.FnTurnsSettle", spec := "fnTurnsSettle", named := ["unicode.CaseRanges"], apart := false, laid := [("unicode.CaseRanges", laid_unicode_CaseRanges)], narrowed := true }
def FnTurnsSettleUptoSaid : Prop := fnTurnsSettleUptoRow.holds Tryd.pinned (OpenSpec.upto fnTurnsSettleSpec)

/-- 'laws.FnCasesExchanged', WHERE WHAT IT READS IS OF BULK AT MOST 1048576: true; the input reads as it did. -/
def fnCasesExchangedUptoRow : OpenClaim := { program := "ytdabmoekhobgiaadoor", sum := "4b7bf29a823db5382d2194aae9c9bb51f0625611df8df97b43b2b994b26d7024", func := "lib-lettermill/laws.FnCasesExchanged", spec := "fnCasesExchanged", named := ["unicode.CaseRanges"], apart := false, laid := [("unicode.CaseRanges", laid_unicode_CaseRanges)], narrowed := true }
def FnCasesExchangedUptoSaid : Prop := fnCasesExchangedUptoRow.holds Tryd.pinned (OpenSpec.upto fnCasesExchangedSpec)

/-- 'laws.FnMoved', WHERE WHAT IT READS IS OF BULK AT MOST 1048576: true; the input reads as it did. -/
def fnMovedUptoRow : OpenClaim := { program := "ytdabmoekhobgiaadoor", sum := "4b7bf29a823db5382d2194aae9c9bb51f0625611df8df97b43b2b994b26d7024", func := "lib-lettermill/laws.FnMoved", spec := "fnMoved", named := ["unicode.CaseRanges"], apart := false, laid := [("unicode.CaseRanges", laid_unicode_CaseRanges)], narrowed := true }
def FnMovedUptoSaid : Prop := fnMovedUptoRow.holds Tryd.pinned (OpenSpec.upto fnMovedSpec)

/-- 'laws.FnManyRanges', WHERE WHAT IT READS IS OF BULK AT MOST 1048576: true; the input reads as it did. -/
def fnManyRangesUptoRow : OpenClaim := { program := "ytdabmoekhobgiaadoor", sum := "4b7bf29a823db5382d2194aae9c9bb51f0625611df8df97b43b2b994b26d7024", func := "lib-lettermill/laws.FnManyRanges", spec := "fnManyRanges", named := ["unicode.CaseRanges"], apart := false, laid := [("unicode.CaseRanges", laid_unicode_CaseRanges)], narrowed := true }
def FnManyRangesUptoSaid : Prop := fnManyRangesUptoRow.holds Tryd.pinned (OpenSpec.upto fnManyRangesSpec)

/-- 'laws.FnStandardAsList', WHERE WHAT IT READS IS OF BULK AT MOST 1048576: true; the input reads as it did. -/
def fnStandardAsListUptoRow : OpenClaim := { program := "ytdabmoekhobgiaadoor", sum := "4b7bf29a823db5382d2194aae9c9bb51f0625611df8df97b43b2b994b26d7024", func := "lib-lettermill/laws.FnStandardAsList", spec := "fnStandardAsList", named := ["unicode.CaseRanges"], apart := false, laid := [("unicode.CaseRanges", laid_unicode_CaseRanges)], narrowed := true }
def FnStandardAsListUptoSaid : Prop := fnStandardAsListUptoRow.holds Tryd.pinned (OpenSpec.upto fnStandardAsListSpec)

/-- 'laws.FnTabulated', WHERE WHAT IT READS IS OF BULK AT MOST 1048576: true; the input reads as it did. -/
def fnTabulatedUptoRow : OpenClaim := { program := "ytdabmoekhobgiaadoor", sum := "4b7bf29a823db5382d2194aae9c9bb51f0625611df8df97b43b2b994b26d7024", func := "lib-lettermill/laws.FnTabulated", spec := "fnTabulated", named := ["unicode.CaseRanges"], apart := false, laid := [("unicode.CaseRanges", laid_unicode_CaseRanges)], narrowed := true }
def FnTabulatedUptoSaid : Prop := fnTabulatedUptoRow.holds Tryd.pinned (OpenSpec.upto fnTabulatedSpec)

/-- 'laws.FnScripts', WHERE WHAT IT READS IS OF BULK AT MOST 1048576: true; the input reads as it did. -/
def fnScriptsUptoRow : OpenClaim := { program := "ytdabmoekhobgiaadoor", sum := "4b7bf29a823db5382d2194aae9c9bb51f0625611df8df97b43b2b994b26d7024", func := "lib-lettermill/laws.FnScripts", spec := "fnScripts", named := ["unicode.CaseRanges"], apart := false, laid := [("unicode.CaseRanges", laid_unicode_CaseRanges)], narrowed := true }
def FnScriptsUptoSaid : Prop := fnScriptsUptoRow.holds Tryd.pinned (OpenSpec.upto fnScriptsSpec)

/-- 'laws.FnOverlaid', WHERE WHAT IT READS IS OF BULK AT MOST 1048576: true; the input reads as it did. -/
def fnOverlaidUptoRow : OpenClaim := { program := "ytdabmoekhobgiaadoor", sum := "4b7bf29a823db5382d2194aae9c9bb51f0625611df8df97b43b2b994b26d7024", func := "lib-lettermill/laws.FnOverlaid", spec := "fnOverlaid", unfollowed := true, recurses := true, named := ["unicode.CaseRanges"], apart := false, laid := [("unicode.CaseRanges", laid_unicode_CaseRanges)], narrowed := true }
def FnOverlaidUptoSaid : Prop := fnOverlaidUptoRow.holds Tryd.pinned (OpenSpec.upto fnOverlaidSpec)

/-- 'laws.FnUndone', WHERE WHAT IT READS IS OF BULK AT MOST 1048576: true; the input reads as it did. -/
def fnUndoneUptoRow : OpenClaim := { program := "ytdabmoekhobgiaadoor", sum := "4b7bf29a823db5382d2194aae9c9bb51f0625611df8df97b43b2b994b26d7024", func := "lib-lettermill/laws.FnUndone", spec := "fnUndone", unfollowed := true, recurses := true, named := ["unicode.CaseRanges"], apart := false, laid := [("unicode.CaseRanges", laid_unicode_CaseRanges)], narrowed := true }
def FnUndoneUptoSaid : Prop := fnUndoneUptoRow.holds Tryd.pinned (OpenSpec.upto fnUndoneSpec)

/-- 'laws.FnAlphabet', WHERE WHAT IT READS IS OF BULK AT MOST 1048576: true; the input reads as it did. -/
def fnAlphabetUptoRow : OpenClaim := { program := "ytdabmoekhobgiaadoor", sum := "4b7bf29a823db5382d2194aae9c9bb51f0625611df8df97b43b2b994b26d7024", func := "lib-lettermill/laws.FnAlphabet", spec := "fnAlphabet", unfollowed := true, recurses := true, named := ["unicode.CaseRanges"], apart := false, laid := [("unicode.CaseRanges", laid_unicode_CaseRanges)], narrowed := true }
def FnAlphabetUptoSaid : Prop := fnAlphabetUptoRow.holds Tryd.pinned (OpenSpec.upto fnAlphabetSpec)

/-- 'laws.FnMerged', WHERE WHAT IT READS IS OF BULK AT MOST 1048576: true; the input reads as it did. -/
def fnMergedUptoRow : OpenClaim := { program := "ytdabmoekhobgiaadoor", sum := "4b7bf29a823db5382d2194aae9c9bb51f0625611df8df97b43b2b994b26d7024", func := "lib-lettermill/laws.FnMerged", spec := "fnMerged", unfollowed := true, recurses := true, named := ["unicode.CaseRanges"], apart := false, laid := [("unicode.CaseRanges", laid_unicode_CaseRanges)], narrowed := true }
def FnMergedUptoSaid : Prop := fnMergedUptoRow.holds Tryd.pinned (OpenSpec.upto fnMergedSpec)

end Rows
end Go.Proofs.YtdabmoekhobgiaaDoor
