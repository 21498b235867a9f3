/-
  No cell of these rows narrows 'for every input' (looked for: loops, veiled, ifaces, maps, wideKeys, modest, calm, conditions, laid).
  DERIVED. THE GIVEN ROWS OF THIS SEAT. 3 by the template 'for every input the law returns true; each argument reads behind the call as it read before'; 0 by the template 'total and deterministic' (their statements: YtoegfdndoeiolaaTotals.lean).
  GIVEN WITH THE SEED: the statements are not yours to turn. If you find one false, say at which input.
  Laid BY PROGRAM, IN A SANDBOX (cutbox-rows.mjs): the forced cells as the released guide's own fill.sh prints them over the translation 5547b23febe2ceaa… (all of the seat's roots in one cut). By AI agents, Wed Nov 11 2026. No macro, syntax, notation, axiom, sorry.
-/
import Derived.Test.YtoegfdndoeiolaaChecked
import GoSem.Claim
import GoSem.ClaimJoined
import GoSem.ClaimMapViews
import Derived.JoinedTies
import Derived.KernelRfl
namespace Go.Proofs.Ytoegfdndoeiolaa
/- THE CELL 'sum', in the pinned program and in every row, IS THE sha256 OF THE DUMP (.gsa) THAT YtoegfdndoeiolaaProg.lean LOADS. Nothing in Lean hashes anything: it is a label: what it is worth is what the hold of that sum in a sandbox is worth. -/
noncomputable def Try.pinned : Pinned := { name := "ytoegfdndoeiolaa", sum := "5547b23febe2ceaa6ea55047d5df2940e025b88646809b22cdb8898311c6f707", checked := Try.checked }
namespace Rows
def none {H : Type} : Left H := { results := [], args := [] }

/-- 'laws.FnExactPosVal': WHATEVER THE INPUT: true; the input reads as it did. -/
def fnExactPosValSpec : ChangeSpec := { name := "fnExactPosVal", fn := fun _ => fun
  | [d1, d2] => { results := [.lit (.bool true)], args := [d1, d2] }
  | _ => none }
def fnExactPosValRow : OpenClaim := { program := "ytoegfdndoeiolaa", sum := "5547b23febe2ceaa6ea55047d5df2940e025b88646809b22cdb8898311c6f707", func := "loop.example/pub-sketchedcounts/laws.FnExactPosVal", spec := "fnExactPosVal", apart := false }
def FnExactPosValSaid : Prop := fnExactPosValRow.holds Try.pinned (OpenSpec.ofChange fnExactPosValSpec)

/-- ITS FALSE NEIGHBOUR: 'it returns false'. Refute it at one input. -/
def fnExactPosValWrong : ChangeSpec := { name := "fnExactPosVal", fn := fun _ => fun
  | [d1, d2] => { results := [.lit (.bool false)], args := [d1, d2] }
  | _ => none }
def FnExactPosValWrongFalsely : Prop := fnExactPosValRow.holds Try.pinned (OpenSpec.ofChange fnExactPosValWrong)

/-- 'laws.FnVarintBack': WHATEVER THE INPUT: true; the input reads as it did. -/
def fnVarintBackSpec : ChangeSpec := { name := "fnVarintBack", fn := fun _ => fun
  | [d1, d2] => { results := [.lit (.bool true)], args := [d1, d2] }
  | _ => none }
def fnVarintBackRow : OpenClaim := { program := "ytoegfdndoeiolaa", sum := "5547b23febe2ceaa6ea55047d5df2940e025b88646809b22cdb8898311c6f707", func := "loop.example/pub-sketchedcounts/laws.FnVarintBack", spec := "fnVarintBack", apart := false }
def FnVarintBackSaid : Prop := fnVarintBackRow.holds Try.pinned (OpenSpec.ofChange fnVarintBackSpec)

/-- ITS FALSE NEIGHBOUR: 'it returns false'. Refute it at one input. -/
def fnVarintBackWrong : ChangeSpec := { name := "fnVarintBack", fn := fun _ => fun
  | [d1, d2] => { results := [.lit (.bool false)], args := [d1, d2] }
  | _ => none }
def FnVarintBackWrongFalsely : Prop := fnVarintBackRow.holds Try.pinned (OpenSpec.ofChange fnVarintBackWrong)

/-- 'laws.FnHashBack': WHATEVER THE INPUT: true; the input reads as it did. -/
def fnHashBackSpec : ChangeSpec := { name := "fnHashBack", fn := fun _ => fun
  | [d1, d2] => { results := [.lit (.bool true)], args := [d1, d2] }
  | _ => none }
def fnHashBackRow : OpenClaim := { program := "ytoegfdndoeiolaa", sum := "5547b23febe2ceaa6ea55047d5df2940e025b88646809b22cdb8898311c6f707", func := "loop.example/pub-sketchedcounts/laws.FnHashBack", spec := "fnHashBack", apart := false }
def FnHashBackSaid : Prop := fnHashBackRow.holds Try.pinned (OpenSpec.ofChange fnHashBackSpec)

/-- ITS FALSE NEIGHBOUR: 'it returns false'. Refute it at one input. -/
def fnHashBackWrong : ChangeSpec := { name := "fnHashBack", fn := fun _ => fun
  | [d1, d2] => { results := [.lit (.bool false)], args := [d1, d2] }
  | _ => none }
def FnHashBackWrongFalsely : Prop := fnHashBackRow.holds Try.pinned (OpenSpec.ofChange fnHashBackWrong)

/- THE SECOND FORM. 'bulk': how many values and letters a reading holds, each counted each time it is reached (what is shared counts as often as it is met; a slice's spare places count too). A statement '..UptoSaid' is the law's where the arguments, and the package variables that the reading takes, are together of bulk at most 1048576: NARROWER than '..Said'. Prove '..Said' where nothing that the law and all that it calls make is longer than what came in: it says more and counts as full. Else prove '..UptoSaid'. A law counts once. -/
mutual
def uptoBulk {H : Type} : DataW H → Nat
  | .lit (.string bytes) => bytes.length + 1
  | .lit _ => 1
  | .nil => 1
  | .ptr d => uptoBulk d + 1
  | .slice elems spare => uptoBulkAll elems + uptoBulkAll spare + 1
  | .agg parts => uptoBulkAll parts + 1
  | .iface _ d => uptoBulk d + 1
  | .map entries => uptoBulkEntries entries + 1
  | .held _ => 1
def uptoBulkAll {H : Type} : List (DataW H) → Nat
  | [] => 0
  | d :: r => uptoBulk d + uptoBulkAll r
def uptoBulkEntries {H : Type} : List (Lit × DataW H) → Nat
  | [] => 0
  | x :: r => uptoBulkEntry x + uptoBulkEntries r
def uptoBulkEntry {H : Type} : Lit × DataW H → Nat
  | (.string bytes, d) => bytes.length + uptoBulk d + 1
  | (_, d) => uptoBulk d + 1
 end
def uptoSmall : (H : Type) → List (DataW H) → Bool := fun _ ds => decide (uptoBulkAll ds ≤ 1048576)
def OpenSpec.upto (s : _root_.Go.ChangeSpec) : _root_.Go.OpenSpec := { _root_.Go.OpenSpec.ofChange s with cond := some uptoSmall }

/-- 'laws.FnExactPosVal', WHERE WHAT IT READS IS OF BULK AT MOST 1048576: true; the input reads as it did. -/
def fnExactPosValUptoRow : OpenClaim := { program := "ytoegfdndoeiolaa", sum := "5547b23febe2ceaa6ea55047d5df2940e025b88646809b22cdb8898311c6f707", func := "loop.example/pub-sketchedcounts/laws.FnExactPosVal", spec := "fnExactPosVal", apart := false, narrowed := true }
def FnExactPosValUptoSaid : Prop := fnExactPosValUptoRow.holds Try.pinned (OpenSpec.upto fnExactPosValSpec)

/-- 'laws.FnVarintBack', WHERE WHAT IT READS IS OF BULK AT MOST 1048576: true; the input reads as it did. -/
def fnVarintBackUptoRow : OpenClaim := { program := "ytoegfdndoeiolaa", sum := "5547b23febe2ceaa6ea55047d5df2940e025b88646809b22cdb8898311c6f707", func := "loop.example/pub-sketchedcounts/laws.FnVarintBack", spec := "fnVarintBack", apart := false, narrowed := true }
def FnVarintBackUptoSaid : Prop := fnVarintBackUptoRow.holds Try.pinned (OpenSpec.upto fnVarintBackSpec)

/-- 'laws.FnHashBack', WHERE WHAT IT READS IS OF BULK AT MOST 1048576: true; the input reads as it did. -/
def fnHashBackUptoRow : OpenClaim := { program := "ytoegfdndoeiolaa", sum := "5547b23febe2ceaa6ea55047d5df2940e025b88646809b22cdb8898311c6f707", func := "loop.example/pub-sketchedcounts/laws.FnHashBack", spec := "fnHashBack", apart := false, narrowed := true }
def FnHashBackUptoSaid : Prop := fnHashBackUptoRow.holds Try.pinned (OpenSpec.upto fnHashBackSpec)

end Rows
end Go.Proofs.Ytoegfdndoeiolaa
