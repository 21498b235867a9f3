/-
  NARROWER THAN 'FOR EVERY INPUT', by the rows' own cells (each row's printed sentence says how): FnUnpacked: ifaces, laid · FnSetAlone: ifaces, laid · FnCompacted: ifaces, laid · FnExactRegs: ifaces, laid · FnCopied: ifaces, laid · FnExactJoined: ifaces, laid · FnJoinTurns: ifaces, laid · FnReadBack: ifaces, laid · FnReadDense: ifaces, laid · FnBack: ifaces, laid · FnWrittenSpoilt: ifaces, laid.
  DERIVED. THE GIVEN ROWS OF THIS SEAT. 11 by the template 'for every input the law returns true; each argument reads behind the call as it read before'; 0 by the template 'total and deterministic' (their statements: YtoegfdndoeiolaaDoorTotals.lean).
  GIVEN WITH THE SEED: the statements are not yours to turn. If you find one false, say at which input.
  Laid BY PROGRAM, IN A SANDBOX (cutbox-rows.mjs): the forced cells as the released guide's own fill.sh prints them over the translation b65d2bffa209699f… (all of the seat's roots in one cut). By AI agents, Wed Nov 11 2026. No macro, syntax, notation, axiom, sorry.
-/
import Derived.Test.YtoegfdndoeiolaaDoorChecked
import GoSem.Claim
import GoSem.ClaimJoined
import GoSem.ClaimMapViews
import Derived.JoinedTies
import Derived.KernelRfl
namespace Go.Proofs.YtoegfdndoeiolaaDoor
/- THE CELL 'sum', in the pinned program and in every row, IS THE sha256 OF THE DUMP (.gsa) THAT YtoegfdndoeiolaaDoorProg.lean LOADS. Nothing in Lean hashes anything: it is a label: what it is worth is what the hold of that sum in a sandbox is worth. -/
noncomputable def Tryd.pinned : Pinned := { name := "ytoegfdndoeiolaadoor", sum := "b65d2bffa209699fdc5f0d4515632b31cb34a1b46e274a6be4ffc8fb0d15ae3b", checked := Tryd.checked }
namespace Rows
def none {H : Type} : Left H := { results := [], args := [] }

/- WHAT THE LISTED PACKAGE-LEVEL VARIABLES READ AS WHEN THE CALL BEGINS. Each datum BY PROGRAM (the guide's laid-datum.mjs) off the statement by which the dump's own 'gosem.cut.vars' lays the variable. In a bare row this is a premise. The card (YtoegfdndoeiolaaDoorCards.lean) ties it to the program's text. -/
def laid_loop_example_pub_sketchedcounts_pub_hyperloglog_ErrorTooShort {H : Type} : DataW H := .iface "*errors.errorString" (.ptr (.agg [.lit (.string [116, 111, 111, 32, 115, 104, 111, 114, 116, 32, 98, 105, 110, 97, 114, 121])]))
def laid_loop_example_pub_sketchedcounts_pub_hyperloglog_ErrorInvalidData {H : Type} : DataW H := .iface "*errors.errorString" (.ptr (.agg [.lit (.string [105, 110, 118, 97, 108, 105, 100, 32, 98, 105, 110, 97, 114, 121, 32, 100, 97, 116, 97])]))
def laid_loop_example_pub_sketchedcounts_pub_hyperloglog_ErrorInvalidPrecision {H : Type} : DataW H := .iface "*errors.errorString" (.ptr (.agg [.lit (.string [112, 32, 104, 97, 115, 32, 116, 111, 32, 98, 101, 32, 62, 61, 32, 52, 32, 97, 110, 100, 32, 60, 61, 32, 49, 56])]))
def laid_loop_example_pub_sketchedcounts_pub_hyperloglog_ErrorPrecisionMismatch {H : Type} : DataW H := .iface "*errors.errorString" (.ptr (.agg [.lit (.string [112, 114, 101, 99, 105, 115, 105, 111, 110, 115, 32, 109, 117, 115, 116, 32, 98, 101, 32, 101, 113, 117, 97, 108])]))
def laid_loop_example_pub_sketchedcounts_pub_hyperloglog_ErrorInvalidVersion {H : Type} : DataW H := .iface "*errors.errorString" (.ptr (.agg [.lit (.string [117, 110, 107, 110, 111, 119, 110, 32, 115, 101, 114, 105, 97, 108, 105, 122, 97, 116, 105, 111, 110, 32, 118, 101, 114, 115, 105, 111, 110])]))

/-- 'laws.FnUnpacked': WHATEVER THE INPUT: true; the input reads as it did. -/
def fnUnpackedSpec : ChangeSpec := { name := "fnUnpacked", vars := ["loop.example/pub-sketchedcounts/pub/hyperloglog.ErrorTooShort", "loop.example/pub-sketchedcounts/pub/hyperloglog.ErrorInvalidData"], fn := fun _ => fun
  | [d1, d2, g1, g2] => { results := [.lit (.bool true)], args := [d1, d2], vars := [g1, g2] }
  | _ => none }
def fnUnpackedRow : OpenClaim := { program := "ytoegfdndoeiolaadoor", sum := "b65d2bffa209699fdc5f0d4515632b31cb34a1b46e274a6be4ffc8fb0d15ae3b", func := "loop.example/pub-sketchedcounts/laws.FnUnpacked", spec := "fnUnpacked", named := ["loop.example/pub-sketchedcounts/pub/hyperloglog.ErrorTooShort", "loop.example/pub-sketchedcounts/pub/hyperloglog.ErrorInvalidData"], ifaces := true, apart := false, laid := [("loop.example/pub-sketchedcounts/pub/hyperloglog.ErrorTooShort", laid_loop_example_pub_sketchedcounts_pub_hyperloglog_ErrorTooShort), ("loop.example/pub-sketchedcounts/pub/hyperloglog.ErrorInvalidData", laid_loop_example_pub_sketchedcounts_pub_hyperloglog_ErrorInvalidData)] }
def FnUnpackedSaid : Prop := fnUnpackedRow.holds Tryd.pinned (OpenSpec.ofChange fnUnpackedSpec)

/-- ITS FALSE NEIGHBOUR: 'it returns false'. Refute it at one input. -/
def fnUnpackedWrong : ChangeSpec := { name := "fnUnpacked", vars := ["loop.example/pub-sketchedcounts/pub/hyperloglog.ErrorTooShort", "loop.example/pub-sketchedcounts/pub/hyperloglog.ErrorInvalidData"], fn := fun _ => fun
  | [d1, d2, g1, g2] => { results := [.lit (.bool false)], args := [d1, d2], vars := [g1, g2] }
  | _ => none }
def FnUnpackedWrongFalsely : Prop := fnUnpackedRow.holds Tryd.pinned (OpenSpec.ofChange fnUnpackedWrong)

/-- 'laws.FnSetAlone': WHATEVER THE INPUT: true; the input reads as it did. -/
def fnSetAloneSpec : ChangeSpec := { name := "fnSetAlone", vars := ["loop.example/pub-sketchedcounts/pub/hyperloglog.ErrorInvalidPrecision"], fn := fun _ => fun
  | [d1, d2, g1] => { results := [.lit (.bool true)], args := [d1, d2], vars := [g1] }
  | _ => none }
def fnSetAloneRow : OpenClaim := { program := "ytoegfdndoeiolaadoor", sum := "b65d2bffa209699fdc5f0d4515632b31cb34a1b46e274a6be4ffc8fb0d15ae3b", func := "loop.example/pub-sketchedcounts/laws.FnSetAlone", spec := "fnSetAlone", unfollowed := true, recurses := true, named := ["loop.example/pub-sketchedcounts/pub/hyperloglog.ErrorInvalidPrecision"], ifaces := true, apart := false, laid := [("loop.example/pub-sketchedcounts/pub/hyperloglog.ErrorInvalidPrecision", laid_loop_example_pub_sketchedcounts_pub_hyperloglog_ErrorInvalidPrecision)] }
def FnSetAloneSaid : Prop := fnSetAloneRow.holds Tryd.pinned (OpenSpec.ofChange fnSetAloneSpec)

/-- ITS FALSE NEIGHBOUR: 'it returns false'. Refute it at one input. -/
def fnSetAloneWrong : ChangeSpec := { name := "fnSetAlone", vars := ["loop.example/pub-sketchedcounts/pub/hyperloglog.ErrorInvalidPrecision"], fn := fun _ => fun
  | [d1, d2, g1] => { results := [.lit (.bool false)], args := [d1, d2], vars := [g1] }
  | _ => none }
def FnSetAloneWrongFalsely : Prop := fnSetAloneRow.holds Tryd.pinned (OpenSpec.ofChange fnSetAloneWrong)

/-- 'laws.FnCompacted': WHATEVER THE INPUT: true; the input reads as it did. -/
def fnCompactedSpec : ChangeSpec := { name := "fnCompacted", vars := ["loop.example/pub-sketchedcounts/pub/hyperloglog.ErrorInvalidPrecision"], fn := fun _ => fun
  | [d1, d2, d3, g1] => { results := [.lit (.bool true)], args := [d1, d2, d3], vars := [g1] }
  | _ => none }
def fnCompactedRow : OpenClaim := { program := "ytoegfdndoeiolaadoor", sum := "b65d2bffa209699fdc5f0d4515632b31cb34a1b46e274a6be4ffc8fb0d15ae3b", func := "loop.example/pub-sketchedcounts/laws.FnCompacted", spec := "fnCompacted", unfollowed := true, recurses := true, named := ["loop.example/pub-sketchedcounts/pub/hyperloglog.ErrorInvalidPrecision"], ifaces := true, apart := false, laid := [("loop.example/pub-sketchedcounts/pub/hyperloglog.ErrorInvalidPrecision", laid_loop_example_pub_sketchedcounts_pub_hyperloglog_ErrorInvalidPrecision)] }
def FnCompactedSaid : Prop := fnCompactedRow.holds Tryd.pinned (OpenSpec.ofChange fnCompactedSpec)

/-- ITS FALSE NEIGHBOUR: 'it returns false'. Refute it at one input. -/
def fnCompactedWrong : ChangeSpec := { name := "fnCompacted", vars := ["loop.example/pub-sketchedcounts/pub/hyperloglog.ErrorInvalidPrecision"], fn := fun _ => fun
  | [d1, d2, d3, g1] => { results := [.lit (.bool false)], args := [d1, d2, d3], vars := [g1] }
  | _ => none }
def FnCompactedWrongFalsely : Prop := fnCompactedRow.holds Tryd.pinned (OpenSpec.ofChange fnCompactedWrong)

/-- 'laws.FnExactRegs': WHATEVER THE INPUT: true; the input reads as it did. -/
def fnExactRegsSpec : ChangeSpec := { name := "fnExactRegs", vars := ["loop.example/pub-sketchedcounts/pub/hyperloglog.ErrorInvalidPrecision"], fn := fun _ => fun
  | [d1, d2, d3, g1] => { results := [.lit (.bool true)], args := [d1, d2, d3], vars := [g1] }
  | _ => none }
def fnExactRegsRow : OpenClaim := { program := "ytoegfdndoeiolaadoor", sum := "b65d2bffa209699fdc5f0d4515632b31cb34a1b46e274a6be4ffc8fb0d15ae3b", func := "loop.example/pub-sketchedcounts/laws.FnExactRegs", spec := "fnExactRegs", unfollowed := true, recurses := true, named := ["loop.example/pub-sketchedcounts/pub/hyperloglog.ErrorInvalidPrecision"], ifaces := true, apart := false, laid := [("loop.example/pub-sketchedcounts/pub/hyperloglog.ErrorInvalidPrecision", laid_loop_example_pub_sketchedcounts_pub_hyperloglog_ErrorInvalidPrecision)] }
def FnExactRegsSaid : Prop := fnExactRegsRow.holds Tryd.pinned (OpenSpec.ofChange fnExactRegsSpec)

/-- ITS FALSE NEIGHBOUR: 'it returns false'. Refute it at one input. -/
def fnExactRegsWrong : ChangeSpec := { name := "fnExactRegs", vars := ["loop.example/pub-sketchedcounts/pub/hyperloglog.ErrorInvalidPrecision"], fn := fun _ => fun
  | [d1, d2, d3, g1] => { results := [.lit (.bool false)], args := [d1, d2, d3], vars := [g1] }
  | _ => none }
def FnExactRegsWrongFalsely : Prop := fnExactRegsRow.holds Tryd.pinned (OpenSpec.ofChange fnExactRegsWrong)

/-- 'laws.FnCopied': WHATEVER THE INPUT: true; the input reads as it did. -/
def fnCopiedSpec : ChangeSpec := { name := "fnCopied", vars := ["loop.example/pub-sketchedcounts/pub/hyperloglog.ErrorInvalidPrecision"], fn := fun _ => fun
  | [d1, d2, d3, d4, g1] => { results := [.lit (.bool true)], args := [d1, d2, d3, d4], vars := [g1] }
  | _ => none }
def fnCopiedRow : OpenClaim := { program := "ytoegfdndoeiolaadoor", sum := "b65d2bffa209699fdc5f0d4515632b31cb34a1b46e274a6be4ffc8fb0d15ae3b", func := "loop.example/pub-sketchedcounts/laws.FnCopied", spec := "fnCopied", unfollowed := true, recurses := true, named := ["loop.example/pub-sketchedcounts/pub/hyperloglog.ErrorInvalidPrecision"], ifaces := true, apart := false, laid := [("loop.example/pub-sketchedcounts/pub/hyperloglog.ErrorInvalidPrecision", laid_loop_example_pub_sketchedcounts_pub_hyperloglog_ErrorInvalidPrecision)] }
def FnCopiedSaid : Prop := fnCopiedRow.holds Tryd.pinned (OpenSpec.ofChange fnCopiedSpec)

/-- ITS FALSE NEIGHBOUR: 'it returns false'. Refute it at one input. -/
def fnCopiedWrong : ChangeSpec := { name := "fnCopied", vars := ["loop.example/pub-sketchedcounts/pub/hyperloglog.ErrorInvalidPrecision"], fn := fun _ => fun
  | [d1, d2, d3, d4, g1] => { results := [.lit (.bool false)], args := [d1, d2, d3, d4], vars := [g1] }
  | _ => none }
def FnCopiedWrongFalsely : Prop := fnCopiedRow.holds Tryd.pinned (OpenSpec.ofChange fnCopiedWrong)

/-- 'laws.FnExactJoined': WHATEVER THE INPUT: true; the input reads as it did. -/
def fnExactJoinedSpec : ChangeSpec := { name := "fnExactJoined", vars := ["loop.example/pub-sketchedcounts/pub/hyperloglog.ErrorInvalidPrecision", "loop.example/pub-sketchedcounts/pub/hyperloglog.ErrorPrecisionMismatch"], fn := fun _ => fun
  | [d1, d2, d3, d4, d5, g1, g2] => { results := [.lit (.bool true)], args := [d1, d2, d3, d4, d5], vars := [g1, g2] }
  | _ => none }
def fnExactJoinedRow : OpenClaim := { program := "ytoegfdndoeiolaadoor", sum := "b65d2bffa209699fdc5f0d4515632b31cb34a1b46e274a6be4ffc8fb0d15ae3b", func := "loop.example/pub-sketchedcounts/laws.FnExactJoined", spec := "fnExactJoined", unfollowed := true, recurses := true, named := ["loop.example/pub-sketchedcounts/pub/hyperloglog.ErrorInvalidPrecision", "loop.example/pub-sketchedcounts/pub/hyperloglog.ErrorPrecisionMismatch"], ifaces := true, apart := false, laid := [("loop.example/pub-sketchedcounts/pub/hyperloglog.ErrorInvalidPrecision", laid_loop_example_pub_sketchedcounts_pub_hyperloglog_ErrorInvalidPrecision), ("loop.example/pub-sketchedcounts/pub/hyperloglog.ErrorPrecisionMismatch", laid_loop_example_pub_sketchedcounts_pub_hyperloglog_ErrorPrecisionMismatch)] }
def FnExactJoinedSaid : Prop := fnExactJoinedRow.holds Tryd.pinned (OpenSpec.ofChange fnExactJoinedSpec)

/-- ITS FALSE NEIGHBOUR: 'it returns false'. Refute it at one input. -/
def fnExactJoinedWrong : ChangeSpec := { name := "fnExactJoined", vars := ["loop.example/pub-sketchedcounts/pub/hyperloglog.ErrorInvalidPrecision", "loop.example/pub-sketchedcounts/pub/hyperloglog.ErrorPrecisionMismatch"], fn := fun _ => fun
  | [d1, d2, d3, d4, d5, g1, g2] => { results := [.lit (.bool false)], args := [d1, d2, d3, d4, d5], vars := [g1, g2] }
  | _ => none }
def FnExactJoinedWrongFalsely : Prop := fnExactJoinedRow.holds Tryd.pinned (OpenSpec.ofChange fnExactJoinedWrong)

/-- 'laws.FnJoinTurns': WHATEVER THE INPUT: true; the input reads as it did. -/
def fnJoinTurnsSpec : ChangeSpec := { name := "fnJoinTurns", vars := ["loop.example/pub-sketchedcounts/pub/hyperloglog.ErrorInvalidPrecision", "loop.example/pub-sketchedcounts/pub/hyperloglog.ErrorPrecisionMismatch"], fn := fun _ => fun
  | [d1, d2, d3, d4, d5, g1, g2] => { results := [.lit (.bool true)], args := [d1, d2, d3, d4, d5], vars := [g1, g2] }
  | _ => none }
def fnJoinTurnsRow : OpenClaim := { program := "ytoegfdndoeiolaadoor", sum := "b65d2bffa209699fdc5f0d4515632b31cb34a1b46e274a6be4ffc8fb0d15ae3b", func := "loop.example/pub-sketchedcounts/laws.FnJoinTurns", spec := "fnJoinTurns", unfollowed := true, recurses := true, named := ["loop.example/pub-sketchedcounts/pub/hyperloglog.ErrorInvalidPrecision", "loop.example/pub-sketchedcounts/pub/hyperloglog.ErrorPrecisionMismatch"], ifaces := true, apart := false, laid := [("loop.example/pub-sketchedcounts/pub/hyperloglog.ErrorInvalidPrecision", laid_loop_example_pub_sketchedcounts_pub_hyperloglog_ErrorInvalidPrecision), ("loop.example/pub-sketchedcounts/pub/hyperloglog.ErrorPrecisionMismatch", laid_loop_example_pub_sketchedcounts_pub_hyperloglog_ErrorPrecisionMismatch)] }
def FnJoinTurnsSaid : Prop := fnJoinTurnsRow.holds Tryd.pinned (OpenSpec.ofChange fnJoinTurnsSpec)

/-- ITS FALSE NEIGHBOUR: 'it returns false'. Refute it at one input. -/
def fnJoinTurnsWrong : ChangeSpec := { name := "fnJoinTurns", vars := ["loop.example/pub-sketchedcounts/pub/hyperloglog.ErrorInvalidPrecision", "loop.example/pub-sketchedcounts/pub/hyperloglog.ErrorPrecisionMismatch"], fn := fun _ => fun
  | [d1, d2, d3, d4, d5, g1, g2] => { results := [.lit (.bool false)], args := [d1, d2, d3, d4, d5], vars := [g1, g2] }
  | _ => none }
def FnJoinTurnsWrongFalsely : Prop := fnJoinTurnsRow.holds Tryd.pinned (OpenSpec.ofChange fnJoinTurnsWrong)

/-- 'laws.FnReadBack': WHATEVER THE INPUT: true; the input reads as it did. -/
def fnReadBackSpec : ChangeSpec := { name := "fnReadBack", vars := ["loop.example/pub-sketchedcounts/pub/hyperloglog.ErrorTooShort", "loop.example/pub-sketchedcounts/pub/hyperloglog.ErrorInvalidVersion", "loop.example/pub-sketchedcounts/pub/hyperloglog.ErrorInvalidData", "loop.example/pub-sketchedcounts/pub/hyperloglog.ErrorInvalidPrecision"], fn := fun _ => fun
  | [d, g1, g2, g3, g4] => { results := [.lit (.bool true)], args := [d], vars := [g1, g2, g3, g4] }
  | _ => none }
def fnReadBackRow : OpenClaim := { program := "ytoegfdndoeiolaadoor", sum := "b65d2bffa209699fdc5f0d4515632b31cb34a1b46e274a6be4ffc8fb0d15ae3b", func := "loop.example/pub-sketchedcounts/laws.FnReadBack", spec := "fnReadBack", unfollowed := true, recurses := true, named := ["loop.example/pub-sketchedcounts/pub/hyperloglog.ErrorTooShort", "loop.example/pub-sketchedcounts/pub/hyperloglog.ErrorInvalidVersion", "loop.example/pub-sketchedcounts/pub/hyperloglog.ErrorInvalidData", "loop.example/pub-sketchedcounts/pub/hyperloglog.ErrorInvalidPrecision"], ifaces := true, apart := false, laid := [("loop.example/pub-sketchedcounts/pub/hyperloglog.ErrorTooShort", laid_loop_example_pub_sketchedcounts_pub_hyperloglog_ErrorTooShort), ("loop.example/pub-sketchedcounts/pub/hyperloglog.ErrorInvalidVersion", laid_loop_example_pub_sketchedcounts_pub_hyperloglog_ErrorInvalidVersion), ("loop.example/pub-sketchedcounts/pub/hyperloglog.ErrorInvalidPrecision", laid_loop_example_pub_sketchedcounts_pub_hyperloglog_ErrorInvalidPrecision), ("loop.example/pub-sketchedcounts/pub/hyperloglog.ErrorInvalidData", laid_loop_example_pub_sketchedcounts_pub_hyperloglog_ErrorInvalidData)] }
def FnReadBackSaid : Prop := fnReadBackRow.holds Tryd.pinned (OpenSpec.ofChange fnReadBackSpec)

/-- ITS FALSE NEIGHBOUR: 'it returns false'. Refute it at one input. -/
def fnReadBackWrong : ChangeSpec := { name := "fnReadBack", vars := ["loop.example/pub-sketchedcounts/pub/hyperloglog.ErrorTooShort", "loop.example/pub-sketchedcounts/pub/hyperloglog.ErrorInvalidVersion", "loop.example/pub-sketchedcounts/pub/hyperloglog.ErrorInvalidData", "loop.example/pub-sketchedcounts/pub/hyperloglog.ErrorInvalidPrecision"], fn := fun _ => fun
  | [d, g1, g2, g3, g4] => { results := [.lit (.bool false)], args := [d], vars := [g1, g2, g3, g4] }
  | _ => none }
def FnReadBackWrongFalsely : Prop := fnReadBackRow.holds Tryd.pinned (OpenSpec.ofChange fnReadBackWrong)

/-- 'laws.FnReadDense': WHATEVER THE INPUT: true; the input reads as it did. -/
def fnReadDenseSpec : ChangeSpec := { name := "fnReadDense", vars := ["loop.example/pub-sketchedcounts/pub/hyperloglog.ErrorTooShort", "loop.example/pub-sketchedcounts/pub/hyperloglog.ErrorInvalidVersion", "loop.example/pub-sketchedcounts/pub/hyperloglog.ErrorInvalidData", "loop.example/pub-sketchedcounts/pub/hyperloglog.ErrorInvalidPrecision"], fn := fun _ => fun
  | [d1, d2, g1, g2, g3, g4] => { results := [.lit (.bool true)], args := [d1, d2], vars := [g1, g2, g3, g4] }
  | _ => none }
def fnReadDenseRow : OpenClaim := { program := "ytoegfdndoeiolaadoor", sum := "b65d2bffa209699fdc5f0d4515632b31cb34a1b46e274a6be4ffc8fb0d15ae3b", func := "loop.example/pub-sketchedcounts/laws.FnReadDense", spec := "fnReadDense", unfollowed := true, recurses := true, named := ["loop.example/pub-sketchedcounts/pub/hyperloglog.ErrorTooShort", "loop.example/pub-sketchedcounts/pub/hyperloglog.ErrorInvalidVersion", "loop.example/pub-sketchedcounts/pub/hyperloglog.ErrorInvalidData", "loop.example/pub-sketchedcounts/pub/hyperloglog.ErrorInvalidPrecision"], ifaces := true, apart := false, laid := [("loop.example/pub-sketchedcounts/pub/hyperloglog.ErrorTooShort", laid_loop_example_pub_sketchedcounts_pub_hyperloglog_ErrorTooShort), ("loop.example/pub-sketchedcounts/pub/hyperloglog.ErrorInvalidVersion", laid_loop_example_pub_sketchedcounts_pub_hyperloglog_ErrorInvalidVersion), ("loop.example/pub-sketchedcounts/pub/hyperloglog.ErrorInvalidPrecision", laid_loop_example_pub_sketchedcounts_pub_hyperloglog_ErrorInvalidPrecision), ("loop.example/pub-sketchedcounts/pub/hyperloglog.ErrorInvalidData", laid_loop_example_pub_sketchedcounts_pub_hyperloglog_ErrorInvalidData)] }
def FnReadDenseSaid : Prop := fnReadDenseRow.holds Tryd.pinned (OpenSpec.ofChange fnReadDenseSpec)

/-- ITS FALSE NEIGHBOUR: 'it returns false'. Refute it at one input. -/
def fnReadDenseWrong : ChangeSpec := { name := "fnReadDense", vars := ["loop.example/pub-sketchedcounts/pub/hyperloglog.ErrorTooShort", "loop.example/pub-sketchedcounts/pub/hyperloglog.ErrorInvalidVersion", "loop.example/pub-sketchedcounts/pub/hyperloglog.ErrorInvalidData", "loop.example/pub-sketchedcounts/pub/hyperloglog.ErrorInvalidPrecision"], fn := fun _ => fun
  | [d1, d2, g1, g2, g3, g4] => { results := [.lit (.bool false)], args := [d1, d2], vars := [g1, g2, g3, g4] }
  | _ => none }
def FnReadDenseWrongFalsely : Prop := fnReadDenseRow.holds Tryd.pinned (OpenSpec.ofChange fnReadDenseWrong)

/-- 'laws.FnBack': WHATEVER THE INPUT: true; the input reads as it did. -/
def fnBackSpec : ChangeSpec := { name := "fnBack", vars := ["loop.example/pub-sketchedcounts/pub/hyperloglog.ErrorInvalidPrecision", "loop.example/pub-sketchedcounts/pub/hyperloglog.ErrorTooShort", "loop.example/pub-sketchedcounts/pub/hyperloglog.ErrorInvalidVersion", "loop.example/pub-sketchedcounts/pub/hyperloglog.ErrorInvalidData"], fn := fun _ => fun
  | [d1, d2, d3, g1, g2, g3, g4] => { results := [.lit (.bool true)], args := [d1, d2, d3], vars := [g1, g2, g3, g4] }
  | _ => none }
def fnBackRow : OpenClaim := { program := "ytoegfdndoeiolaadoor", sum := "b65d2bffa209699fdc5f0d4515632b31cb34a1b46e274a6be4ffc8fb0d15ae3b", func := "loop.example/pub-sketchedcounts/laws.FnBack", spec := "fnBack", unfollowed := true, recurses := true, named := ["loop.example/pub-sketchedcounts/pub/hyperloglog.ErrorInvalidPrecision", "loop.example/pub-sketchedcounts/pub/hyperloglog.ErrorTooShort", "loop.example/pub-sketchedcounts/pub/hyperloglog.ErrorInvalidVersion", "loop.example/pub-sketchedcounts/pub/hyperloglog.ErrorInvalidData"], ifaces := true, apart := false, laid := [("loop.example/pub-sketchedcounts/pub/hyperloglog.ErrorTooShort", laid_loop_example_pub_sketchedcounts_pub_hyperloglog_ErrorTooShort), ("loop.example/pub-sketchedcounts/pub/hyperloglog.ErrorInvalidVersion", laid_loop_example_pub_sketchedcounts_pub_hyperloglog_ErrorInvalidVersion), ("loop.example/pub-sketchedcounts/pub/hyperloglog.ErrorInvalidPrecision", laid_loop_example_pub_sketchedcounts_pub_hyperloglog_ErrorInvalidPrecision), ("loop.example/pub-sketchedcounts/pub/hyperloglog.ErrorInvalidData", laid_loop_example_pub_sketchedcounts_pub_hyperloglog_ErrorInvalidData)] }
def FnBackSaid : Prop := fnBackRow.holds Tryd.pinned (OpenSpec.ofChange fnBackSpec)

/-- ITS FALSE NEIGHBOUR: 'it returns false'. Refute it at one input. -/
def fnBackWrong : ChangeSpec := { name := "fnBack", vars := ["loop.example/pub-sketchedcounts/pub/hyperloglog.ErrorInvalidPrecision", "loop.example/pub-sketchedcounts/pub/hyperloglog.ErrorTooShort", "loop.example/pub-sketchedcounts/pub/hyperloglog.ErrorInvalidVersion", "loop.example/pub-sketchedcounts/pub/hyperloglog.ErrorInvalidData"], fn := fun _ => fun
  | [d1, d2, d3, g1, g2, g3, g4] => { results := [.lit (.bool false)], args := [d1, d2, d3], vars := [g1, g2, g3, g4] }
  | _ => none }
def FnBackWrongFalsely : Prop := fnBackRow.holds Tryd.pinned (OpenSpec.ofChange fnBackWrong)

/-- 'laws.FnWrittenSpoilt': WHATEVER THE INPUT: true; the input reads as it did. -/
def fnWrittenSpoiltSpec : ChangeSpec := { name := "fnWrittenSpoilt", vars := ["loop.example/pub-sketchedcounts/pub/hyperloglog.ErrorInvalidPrecision", "loop.example/pub-sketchedcounts/pub/hyperloglog.ErrorTooShort", "loop.example/pub-sketchedcounts/pub/hyperloglog.ErrorInvalidVersion", "loop.example/pub-sketchedcounts/pub/hyperloglog.ErrorInvalidData"], fn := fun _ => fun
  | [d1, d2, d3, d4, g1, g2, g3, g4] => { results := [.lit (.bool true)], args := [d1, d2, d3, d4], vars := [g1, g2, g3, g4] }
  | _ => none }
def fnWrittenSpoiltRow : OpenClaim := { program := "ytoegfdndoeiolaadoor", sum := "b65d2bffa209699fdc5f0d4515632b31cb34a1b46e274a6be4ffc8fb0d15ae3b", func := "loop.example/pub-sketchedcounts/laws.FnWrittenSpoilt", spec := "fnWrittenSpoilt", unfollowed := true, recurses := true, named := ["loop.example/pub-sketchedcounts/pub/hyperloglog.ErrorInvalidPrecision", "loop.example/pub-sketchedcounts/pub/hyperloglog.ErrorTooShort", "loop.example/pub-sketchedcounts/pub/hyperloglog.ErrorInvalidVersion", "loop.example/pub-sketchedcounts/pub/hyperloglog.ErrorInvalidData"], ifaces := true, apart := false, laid := [("loop.example/pub-sketchedcounts/pub/hyperloglog.ErrorTooShort", laid_loop_example_pub_sketchedcounts_pub_hyperloglog_ErrorTooShort), ("loop.example/pub-sketchedcounts/pub/hyperloglog.ErrorInvalidVersion", laid_loop_example_pub_sketchedcounts_pub_hyperloglog_ErrorInvalidVersion), ("loop.example/pub-sketchedcounts/pub/hyperloglog.ErrorInvalidPrecision", laid_loop_example_pub_sketchedcounts_pub_hyperloglog_ErrorInvalidPrecision), ("loop.example/pub-sketchedcounts/pub/hyperloglog.ErrorInvalidData", laid_loop_example_pub_sketchedcounts_pub_hyperloglog_ErrorInvalidData)] }
def FnWrittenSpoiltSaid : Prop := fnWrittenSpoiltRow.holds Tryd.pinned (OpenSpec.ofChange fnWrittenSpoiltSpec)

/-- ITS FALSE NEIGHBOUR: 'it returns false'. Refute it at one input. -/
def fnWrittenSpoiltWrong : ChangeSpec := { name := "fnWrittenSpoilt", vars := ["loop.example/pub-sketchedcounts/pub/hyperloglog.ErrorInvalidPrecision", "loop.example/pub-sketchedcounts/pub/hyperloglog.ErrorTooShort", "loop.example/pub-sketchedcounts/pub/hyperloglog.ErrorInvalidVersion", "loop.example/pub-sketchedcounts/pub/hyperloglog.ErrorInvalidData"], fn := fun _ => fun
  | [d1, d2, d3, d4, g1, g2, g3, g4] => { results := [.lit (.bool false)], args := [d1, d2, d3, d4], vars := [g1, g2, g3, g4] }
  | _ => none }
def FnWrittenSpoiltWrongFalsely : Prop := fnWrittenSpoiltRow.holds Tryd.pinned (OpenSpec.ofChange fnWrittenSpoiltWrong)

/- THE SECOND FORM. 'bulk': how many values and letters a reading holds, each counted each time it is reached (what is shared counts as often as it is met; a slice's spare places count too). A statement '..UptoSaid' is the law's where the arguments, and the package variables that the reading takes, are together of bulk at most 1048576: NARROWER than '..Said'. Prove '..Said' where nothing that the law and all that it calls make is longer than what came in: it says more and counts as full. Else prove '..UptoSaid'. A law counts once. -/
mutual
def uptoBulk {H : Type} : DataW H → Nat
  | .lit (.string bytes) => bytes.length + 1
  | .lit _ => 1
  | .nil => 1
  | .ptr d => uptoBulk d + 1
  | .slice elems spare => uptoBulkAll elems + uptoBulkAll spare + 1
  | .agg parts => uptoBulkAll parts + 1
  | .iface _ d => uptoBulk d + 1
  | .map entries => uptoBulkEntries entries + 1
  | .held _ => 1
def uptoBulkAll {H : Type} : List (DataW H) → Nat
  | [] => 0
  | d :: r => uptoBulk d + uptoBulkAll r
def uptoBulkEntries {H : Type} : List (Lit × DataW H) → Nat
  | [] => 0
  | x :: r => uptoBulkEntry x + uptoBulkEntries r
def uptoBulkEntry {H : Type} : Lit × DataW H → Nat
  | (.string bytes, d) => bytes.length + uptoBulk d + 1
  | (_, d) => uptoBulk d + 1
 end
def uptoSmall : (H : Type) → List (DataW H) → Bool := fun _ ds => decide (uptoBulkAll ds ≤ 1048576)
def OpenSpec.upto (s : _root_.Go.ChangeSpec) : _root_.Go.OpenSpec := { _root_.Go.OpenSpec.ofChange s with cond := some uptoSmall }

/-- 'laws.FnUnpacked', WHERE WHAT IT READS IS OF BULK AT MOST 1048576: true; the input reads as it did. -/
def fnUnpackedUptoRow : OpenClaim := { program := "ytoegfdndoeiolaadoor", sum := "b65d2bffa209699fdc5f0d4515632b31cb34a1b46e274a6be4ffc8fb0d15ae3b", func := "loop.example/pub-sketchedcounts/laws.FnUnpacked", spec := "fnUnpacked", named := ["loop.example/pub-sketchedcounts/pub/hyperloglog.ErrorTooShort", "loop.example/pub-sketchedcounts/pub/hyperloglog.ErrorInvalidData"], ifaces := true, apart := false, laid := [("loop.example/pub-sketchedcounts/pub/hyperloglog.ErrorTooShort", laid_loop_example_pub_sketchedcounts_pub_hyperloglog_ErrorTooShort), ("loop.example/pub-sketchedcounts/pub/hyperloglog.ErrorInvalidData", laid_loop_example_pub_sketchedcounts_pub_hyperloglog_ErrorInvalidData)], narrowed := true }
def FnUnpackedUptoSaid : Prop := fnUnpackedUptoRow.holds Tryd.pinned (OpenSpec.upto fnUnpackedSpec)

/-- 'laws.FnSetAlone', WHERE WHAT IT READS IS OF BULK AT MOST 1048576: true; the input reads as it did. -/
def fnSetAloneUptoRow : OpenClaim := { program := "ytoegfdndoeiolaadoor", sum := "b65d2bffa209699fdc5f0d4515632b31cb34a1b46e274a6be4ffc8fb0d15ae3b", func := "loop.example/pub-sketchedcounts/laws.FnSetAlone", spec := "fnSetAlone", unfollowed := true, recurses := true, named := ["loop.example/pub-sketchedcounts/pub/hyperloglog.ErrorInvalidPrecision"], ifaces := true, apart := false, laid := [("loop.example/pub-sketchedcounts/pub/hyperloglog.ErrorInvalidPrecision", laid_loop_example_pub_sketchedcounts_pub_hyperloglog_ErrorInvalidPrecision)], narrowed := true }
def FnSetAloneUptoSaid : Prop := fnSetAloneUptoRow.holds Tryd.pinned (OpenSpec.upto fnSetAloneSpec)

/-- 'laws.FnCompacted', WHERE WHAT IT READS IS OF BULK AT MOST 1048576: true; the input reads as it did. -/
def fnCompactedUptoRow : OpenClaim := { program := "ytoegfdndoeiolaadoor", sum := "b65d2bffa209699fdc5f0d4515632b31cb34a1b46e274a6be4ffc8fb0d15ae3b", func := "loop.example/pub-sketchedcounts/laws.FnCompacted", spec := "fnCompacted", unfollowed := true, recurses := true, named := ["loop.example/pub-sketchedcounts/pub/hyperloglog.ErrorInvalidPrecision"], ifaces := true, apart := false, laid := [("loop.example/pub-sketchedcounts/pub/hyperloglog.ErrorInvalidPrecision", laid_loop_example_pub_sketchedcounts_pub_hyperloglog_ErrorInvalidPrecision)], narrowed := true }
def FnCompactedUptoSaid : Prop := fnCompactedUptoRow.holds Tryd.pinned (OpenSpec.upto fnCompactedSpec)

/-- 'laws.FnExactRegs', WHERE WHAT IT READS IS OF BULK AT MOST 1048576: true; the input reads as it did. -/
def fnExactRegsUptoRow : OpenClaim := { program := "ytoegfdndoeiolaadoor", sum := "b65d2bffa209699fdc5f0d4515632b31cb34a1b46e274a6be4ffc8fb0d15ae3b", func := "loop.example/pub-sketchedcounts/laws.FnExactRegs", spec := "fnExactRegs", unfollowed := true, recurses := true, named := ["loop.example/pub-sketchedcounts/pub/hyperloglog.ErrorInvalidPrecision"], ifaces := true, apart := false, laid := [("loop.example/pub-sketchedcounts/pub/hyperloglog.ErrorInvalidPrecision", laid_loop_example_pub_sketchedcounts_pub_hyperloglog_ErrorInvalidPrecision)], narrowed := true }
def FnExactRegsUptoSaid : Prop := fnExactRegsUptoRow.holds Tryd.pinned (OpenSpec.upto fnExactRegsSpec)

/-- 'laws.FnCopied', WHERE WHAT IT READS IS OF BULK AT MOST 1048576: true; the input reads as it did. -/
def fnCopiedUptoRow : OpenClaim := { program := "ytoegfdndoeiolaadoor", sum := "b65d2bffa209699fdc5f0d4515632b31cb34a1b46e274a6be4ffc8fb0d15ae3b", func := "loop.example/pub-sketchedcounts/laws.FnCopied", spec := "fnCopied", unfollowed := true, recurses := true, named := ["loop.example/pub-sketchedcounts/pub/hyperloglog.ErrorInvalidPrecision"], ifaces := true, apart := false, laid := [("loop.example/pub-sketchedcounts/pub/hyperloglog.ErrorInvalidPrecision", laid_loop_example_pub_sketchedcounts_pub_hyperloglog_ErrorInvalidPrecision)], narrowed := true }
def FnCopiedUptoSaid : Prop := fnCopiedUptoRow.holds Tryd.pinned (OpenSpec.upto fnCopiedSpec)

/-- 'laws.FnExactJoined', WHERE WHAT IT READS IS OF BULK AT MOST 1048576: true; the input reads as it did. -/
def fnExactJoinedUptoRow : OpenClaim := { program := "ytoegfdndoeiolaadoor", sum := "b65d2bffa209699fdc5f0d4515632b31cb34a1b46e274a6be4ffc8fb0d15ae3b", func := "loop.example/pub-sketchedcounts/laws.FnExactJoined", spec := "fnExactJoined", unfollowed := true, recurses := true, named := ["loop.example/pub-sketchedcounts/pub/hyperloglog.ErrorInvalidPrecision", "loop.example/pub-sketchedcounts/pub/hyperloglog.ErrorPrecisionMismatch"], ifaces := true, apart := false, laid := [("loop.example/pub-sketchedcounts/pub/hyperloglog.ErrorInvalidPrecision", laid_loop_example_pub_sketchedcounts_pub_hyperloglog_ErrorInvalidPrecision), ("loop.example/pub-sketchedcounts/pub/hyperloglog.ErrorPrecisionMismatch", laid_loop_example_pub_sketchedcounts_pub_hyperloglog_ErrorPrecisionMismatch)], narrowed := true }
def FnExactJoinedUptoSaid : Prop := fnExactJoinedUptoRow.holds Tryd.pinned (OpenSpec.upto fnExactJoinedSpec)

/-- 'laws.FnJoinTurns', WHERE WHAT IT READS IS OF BULK AT MOST 1048576: true; the input reads as it did. -/
def fnJoinTurnsUptoRow : OpenClaim := { program := "ytoegfdndoeiolaadoor", sum := "b65d2bffa209699fdc5f0d4515632b31cb34a1b46e274a6be4ffc8fb0d15ae3b", func := "loop.example/pub-sketchedcounts/laws.FnJoinTurns", spec := "fnJoinTurns", unfollowed := true, recurses := true, named := ["loop.example/pub-sketchedcounts/pub/hyperloglog.ErrorInvalidPrecision", "loop.example/pub-sketchedcounts/pub/hyperloglog.ErrorPrecisionMismatch"], ifaces := true, apart := false, laid := [("loop.example/pub-sketchedcounts/pub/hyperloglog.ErrorInvalidPrecision", laid_loop_example_pub_sketchedcounts_pub_hyperloglog_ErrorInvalidPrecision), ("loop.example/pub-sketchedcounts/pub/hyperloglog.ErrorPrecisionMismatch", laid_loop_example_pub_sketchedcounts_pub_hyperloglog_ErrorPrecisionMismatch)], narrowed := true }
def FnJoinTurnsUptoSaid : Prop := fnJoinTurnsUptoRow.holds Tryd.pinned (OpenSpec.upto fnJoinTurnsSpec)

/-- 'laws.FnReadBack', WHERE WHAT IT READS IS OF BULK AT MOST 1048576: true; the input reads as it did. -/
def fnReadBackUptoRow : OpenClaim := { program := "ytoegfdndoeiolaadoor", sum := "b65d2bffa209699fdc5f0d4515632b31cb34a1b46e274a6be4ffc8fb0d15ae3b", func := "loop.example/pub-sketchedcounts/laws.FnReadBack", spec := "fnReadBack", unfollowed := true, recurses := true, named := ["loop.example/pub-sketchedcounts/pub/hyperloglog.ErrorTooShort", "loop.example/pub-sketchedcounts/pub/hyperloglog.ErrorInvalidVersion", "loop.example/pub-sketchedcounts/pub/hyperloglog.ErrorInvalidData", "loop.example/pub-sketchedcounts/pub/hyperloglog.ErrorInvalidPrecision"], ifaces := true, apart := false, laid := [("loop.example/pub-sketchedcounts/pub/hyperloglog.ErrorTooShort", laid_loop_example_pub_sketchedcounts_pub_hyperloglog_ErrorTooShort), ("loop.example/pub-sketchedcounts/pub/hyperloglog.ErrorInvalidVersion", laid_loop_example_pub_sketchedcounts_pub_hyperloglog_ErrorInvalidVersion), ("loop.example/pub-sketchedcounts/pub/hyperloglog.ErrorInvalidPrecision", laid_loop_example_pub_sketchedcounts_pub_hyperloglog_ErrorInvalidPrecision), ("loop.example/pub-sketchedcounts/pub/hyperloglog.ErrorInvalidData", laid_loop_example_pub_sketchedcounts_pub_hyperloglog_ErrorInvalidData)], narrowed := true }
def FnReadBackUptoSaid : Prop := fnReadBackUptoRow.holds Tryd.pinned (OpenSpec.upto fnReadBackSpec)

/-- 'laws.FnReadDense', WHERE WHAT IT READS IS OF BULK AT MOST 1048576: true; the input reads as it did. -/
def fnReadDenseUptoRow : OpenClaim := { program := "ytoegfdndoeiolaadoor", sum := "b65d2bffa209699fdc5f0d4515632b31cb34a1b46e274a6be4ffc8fb0d15ae3b", func := "loop.example/pub-sketchedcounts/laws.FnReadDense", spec := "fnReadDense", unfollowed := true, recurses := true, named := ["loop.example/pub-sketchedcounts/pub/hyperloglog.ErrorTooShort", "loop.example/pub-sketchedcounts/pub/hyperloglog.ErrorInvalidVersion", "loop.example/pub-sketchedcounts/pub/hyperloglog.ErrorInvalidData", "loop.example/pub-sketchedcounts/pub/hyperloglog.ErrorInvalidPrecision"], ifaces := true, apart := false, laid := [("loop.example/pub-sketchedcounts/pub/hyperloglog.ErrorTooShort", laid_loop_example_pub_sketchedcounts_pub_hyperloglog_ErrorTooShort), ("loop.example/pub-sketchedcounts/pub/hyperloglog.ErrorInvalidVersion", laid_loop_example_pub_sketchedcounts_pub_hyperloglog_ErrorInvalidVersion), ("loop.example/pub-sketchedcounts/pub/hyperloglog.ErrorInvalidPrecision", laid_loop_example_pub_sketchedcounts_pub_hyperloglog_ErrorInvalidPrecision), ("loop.example/pub-sketchedcounts/pub/hyperloglog.ErrorInvalidData", laid_loop_example_pub_sketchedcounts_pub_hyperloglog_ErrorInvalidData)], narrowed := true }
def FnReadDenseUptoSaid : Prop := fnReadDenseUptoRow.holds Tryd.pinned (OpenSpec.upto fnReadDenseSpec)

/-- 'laws.FnBack', WHERE WHAT IT READS IS OF BULK AT MOST 1048576: true; the input reads as it did. -/
def fnBackUptoRow : OpenClaim := { program := "ytoegfdndoeiolaadoor", sum := "b65d2bffa209699fdc5f0d4515632b31cb34a1b46e274a6be4ffc8fb0d15ae3b", func := "loop.example/pub-sketchedcounts/laws.FnBack", spec := "fnBack", unfollowed := true, recurses := true, named := ["loop.example/pub-sketchedcounts/pub/hyperloglog.ErrorInvalidPrecision", "loop.example/pub-sketchedcounts/pub/hyperloglog.ErrorTooShort", "loop.example/pub-sketchedcounts/pub/hyperloglog.ErrorInvalidVersion", "loop.example/pub-sketchedcounts/pub/hyperloglog.ErrorInvalidData"], ifaces := true, apart := false, laid := [("loop.example/pub-sketchedcounts/pub/hyperloglog.ErrorTooShort", laid_loop_example_pub_sketchedcounts_pub_hyperloglog_ErrorTooShort), ("loop.example/pub-sketchedcounts/pub/hyperloglog.ErrorInvalidVersion", laid_loop_example_pub_sketchedcounts_pub_hyperloglog_ErrorInvalidVersion), ("loop.example/pub-sketchedcounts/pub/hyperloglog.ErrorInvalidPrecision", laid_loop_example_pub_sketchedcounts_pub_hyperloglog_ErrorInvalidPrecision), ("loop.example/pub-sketchedcounts/pub/hyperloglog.ErrorInvalidData", laid_loop_example_pub_sketchedcounts_pub_hyperloglog_ErrorInvalidData)], narrowed := true }
def FnBackUptoSaid : Prop := fnBackUptoRow.holds Tryd.pinned (OpenSpec.upto fnBackSpec)

/-- 'laws.FnWrittenSpoilt', WHERE WHAT IT READS IS OF BULK AT MOST 1048576: true; the input reads as it did. -/
def fnWrittenSpoiltUptoRow : OpenClaim := { program := "ytoegfdndoeiolaadoor", sum := "b65d2bffa209699fdc5f0d4515632b31cb34a1b46e274a6be4ffc8fb0d15ae3b", func := "loop.example/pub-sketchedcounts/laws.FnWrittenSpoilt", spec := "fnWrittenSpoilt", unfollowed := true, recurses := true, named := ["loop.example/pub-sketchedcounts/pub/hyperloglog.ErrorInvalidPrecision", "loop.example/pub-sketchedcounts/pub/hyperloglog.ErrorTooShort", "loop.example/pub-sketchedcounts/pub/hyperloglog.ErrorInvalidVersion", "loop.example/pub-sketchedcounts/pub/hyperloglog.ErrorInvalidData"], ifaces := true, apart := false, laid := [("loop.example/pub-sketchedcounts/pub/hyperloglog.ErrorTooShort", laid_loop_example_pub_sketchedcounts_pub_hyperloglog_ErrorTooShort), ("loop.example/pub-sketchedcounts/pub/hyperloglog.ErrorInvalidVersion", laid_loop_example_pub_sketchedcounts_pub_hyperloglog_ErrorInvalidVersion), ("loop.example/pub-sketchedcounts/pub/hyperloglog.ErrorInvalidPrecision", laid_loop_example_pub_sketchedcounts_pub_hyperloglog_ErrorInvalidPrecision), ("loop.example/pub-sketchedcounts/pub/hyperloglog.ErrorInvalidData", laid_loop_example_pub_sketchedcounts_pub_hyperloglog_ErrorInvalidData)], narrowed := true }
def FnWrittenSpoiltUptoSaid : Prop := fnWrittenSpoiltUptoRow.holds Tryd.pinned (OpenSpec.upto fnWrittenSpoiltSpec)

end Rows
end Go.Proofs.YtoegfdndoeiolaaDoor
