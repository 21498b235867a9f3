/-
  DERIVED. GIVEN WITH THE SEED: THE CARDS: each row of YtoegfdndoeiolaaDoorRows.lean that lists a variable, with what it lists TIED to the program's text (the seventh form; the later family's looks); each row that meets fmt, with fmt's text TOLD by the authors' own Lean function (tested against real Go, not proved from fmt's source: count such statements apart). THE CARD IS WHAT COUNTS. Prove the row's statement (the work); the ties are given (YtoegfdndoeiolaaDoorTie.lean); close each card by the builder's one call (the guide's Derived/Test/ToyasCard.lean, 'card_holds'). Laid BY PROGRAM, IN A SANDBOX (cutbox-door.mjs). By AI agents, Wed Nov 11 2026. No macro, syntax, notation, axiom, sorry.
-/
import Derived.Test.YtoegfdndoeiolaaDoorRows
import GoSem.ClaimSeven
namespace Go.Proofs.YtoegfdndoeiolaaDoor
namespace Rows

/-- THE TIED CARD OF 'laws.FnUnpacked'. -/
def fnUnpackedCard : Claim7 := { stood := { row := fnUnpackedRow, standIns := [], harness := (true, "85bba11d0984a596d850ce573b76003659da6734d9189a3fd34cef8784758217"), looks := false }, kinds := [], alts := [], laidByText := true, laidKinds := [.sentinel, .sentinel], laidTests := true, laidLooks := .later }
def FnUnpackedCardSaid : Prop := Claim7.holds Tryd.pinned (.plain (OpenSpec.ofChange fnUnpackedSpec)) fnUnpackedCard

/-- THE TIED CARD OF 'laws.FnSetAlone'. -/
def fnSetAloneCard : Claim7 := { stood := { row := fnSetAloneRow, standIns := [], harness := (true, "85bba11d0984a596d850ce573b76003659da6734d9189a3fd34cef8784758217"), looks := false }, kinds := [], alts := [], laidByText := true, laidKinds := [.sentinel], laidTests := true, laidLooks := .later }
def FnSetAloneCardSaid : Prop := Claim7.holds Tryd.pinned (.plain (OpenSpec.ofChange fnSetAloneSpec)) fnSetAloneCard

/-- THE TIED CARD OF 'laws.FnCompacted'. -/
def fnCompactedCard : Claim7 := { stood := { row := fnCompactedRow, standIns := [], harness := (true, "85bba11d0984a596d850ce573b76003659da6734d9189a3fd34cef8784758217"), looks := false }, kinds := [], alts := [], laidByText := true, laidKinds := [.sentinel], laidTests := true, laidLooks := .later }
def FnCompactedCardSaid : Prop := Claim7.holds Tryd.pinned (.plain (OpenSpec.ofChange fnCompactedSpec)) fnCompactedCard

/-- THE TIED CARD OF 'laws.FnExactRegs'. -/
def fnExactRegsCard : Claim7 := { stood := { row := fnExactRegsRow, standIns := [], harness := (true, "85bba11d0984a596d850ce573b76003659da6734d9189a3fd34cef8784758217"), looks := false }, kinds := [], alts := [], laidByText := true, laidKinds := [.sentinel], laidTests := true, laidLooks := .later }
def FnExactRegsCardSaid : Prop := Claim7.holds Tryd.pinned (.plain (OpenSpec.ofChange fnExactRegsSpec)) fnExactRegsCard

/-- THE TIED CARD OF 'laws.FnCopied'. -/
def fnCopiedCard : Claim7 := { stood := { row := fnCopiedRow, standIns := [], harness := (true, "85bba11d0984a596d850ce573b76003659da6734d9189a3fd34cef8784758217"), looks := false }, kinds := [], alts := [], laidByText := true, laidKinds := [.sentinel], laidTests := true, laidLooks := .later }
def FnCopiedCardSaid : Prop := Claim7.holds Tryd.pinned (.plain (OpenSpec.ofChange fnCopiedSpec)) fnCopiedCard

/-- THE TIED CARD OF 'laws.FnExactJoined'. -/
def fnExactJoinedCard : Claim7 := { stood := { row := fnExactJoinedRow, standIns := [], harness := (true, "85bba11d0984a596d850ce573b76003659da6734d9189a3fd34cef8784758217"), looks := false }, kinds := [], alts := [], laidByText := true, laidKinds := [.sentinel, .sentinel], laidTests := true, laidLooks := .later }
def FnExactJoinedCardSaid : Prop := Claim7.holds Tryd.pinned (.plain (OpenSpec.ofChange fnExactJoinedSpec)) fnExactJoinedCard

/-- THE TIED CARD OF 'laws.FnJoinTurns'. -/
def fnJoinTurnsCard : Claim7 := { stood := { row := fnJoinTurnsRow, standIns := [], harness := (true, "85bba11d0984a596d850ce573b76003659da6734d9189a3fd34cef8784758217"), looks := false }, kinds := [], alts := [], laidByText := true, laidKinds := [.sentinel, .sentinel], laidTests := true, laidLooks := .later }
def FnJoinTurnsCardSaid : Prop := Claim7.holds Tryd.pinned (.plain (OpenSpec.ofChange fnJoinTurnsSpec)) fnJoinTurnsCard

/-- THE TIED CARD OF 'laws.FnReadBack'. -/
def fnReadBackCard : Claim7 := { stood := { row := fnReadBackRow, standIns := [], harness := (true, "85bba11d0984a596d850ce573b76003659da6734d9189a3fd34cef8784758217"), looks := false }, kinds := [], alts := [], laidByText := true, laidKinds := [.sentinel, .sentinel, .sentinel, .sentinel], laidTests := true, laidLooks := .later }
def FnReadBackCardSaid : Prop := Claim7.holds Tryd.pinned (.plain (OpenSpec.ofChange fnReadBackSpec)) fnReadBackCard

/-- THE TIED CARD OF 'laws.FnReadDense'. -/
def fnReadDenseCard : Claim7 := { stood := { row := fnReadDenseRow, standIns := [], harness := (true, "85bba11d0984a596d850ce573b76003659da6734d9189a3fd34cef8784758217"), looks := false }, kinds := [], alts := [], laidByText := true, laidKinds := [.sentinel, .sentinel, .sentinel, .sentinel], laidTests := true, laidLooks := .later }
def FnReadDenseCardSaid : Prop := Claim7.holds Tryd.pinned (.plain (OpenSpec.ofChange fnReadDenseSpec)) fnReadDenseCard

/-- THE TIED CARD OF 'laws.FnBack'. -/
def fnBackCard : Claim7 := { stood := { row := fnBackRow, standIns := [], harness := (true, "85bba11d0984a596d850ce573b76003659da6734d9189a3fd34cef8784758217"), looks := false }, kinds := [], alts := [], laidByText := true, laidKinds := [.sentinel, .sentinel, .sentinel, .sentinel], laidTests := true, laidLooks := .later }
def FnBackCardSaid : Prop := Claim7.holds Tryd.pinned (.plain (OpenSpec.ofChange fnBackSpec)) fnBackCard

/-- THE TIED CARD OF 'laws.FnWrittenSpoilt'. -/
def fnWrittenSpoiltCard : Claim7 := { stood := { row := fnWrittenSpoiltRow, standIns := [], harness := (true, "85bba11d0984a596d850ce573b76003659da6734d9189a3fd34cef8784758217"), looks := false }, kinds := [], alts := [], laidByText := true, laidKinds := [.sentinel, .sentinel, .sentinel, .sentinel], laidTests := true, laidLooks := .later }
def FnWrittenSpoiltCardSaid : Prop := Claim7.holds Tryd.pinned (.plain (OpenSpec.ofChange fnWrittenSpoiltSpec)) fnWrittenSpoiltCard

/-- THE SECOND FORM's CARD OF 'laws.FnUnpacked'. -/
def fnUnpackedUptoCard : Claim7 := { stood := { row := fnUnpackedUptoRow, standIns := [], harness := (true, "85bba11d0984a596d850ce573b76003659da6734d9189a3fd34cef8784758217"), looks := false }, kinds := [], alts := [], laidByText := true, laidKinds := [.sentinel, .sentinel], laidTests := true, laidLooks := .later }
def FnUnpackedUptoCardSaid : Prop := Claim7.holds Tryd.pinned (.plain (OpenSpec.upto fnUnpackedSpec)) fnUnpackedUptoCard

/-- THE SECOND FORM's CARD OF 'laws.FnSetAlone'. -/
def fnSetAloneUptoCard : Claim7 := { stood := { row := fnSetAloneUptoRow, standIns := [], harness := (true, "85bba11d0984a596d850ce573b76003659da6734d9189a3fd34cef8784758217"), looks := false }, kinds := [], alts := [], laidByText := true, laidKinds := [.sentinel], laidTests := true, laidLooks := .later }
def FnSetAloneUptoCardSaid : Prop := Claim7.holds Tryd.pinned (.plain (OpenSpec.upto fnSetAloneSpec)) fnSetAloneUptoCard

/-- THE SECOND FORM's CARD OF 'laws.FnCompacted'. -/
def fnCompactedUptoCard : Claim7 := { stood := { row := fnCompactedUptoRow, standIns := [], harness := (true, "85bba11d0984a596d850ce573b76003659da6734d9189a3fd34cef8784758217"), looks := false }, kinds := [], alts := [], laidByText := true, laidKinds := [.sentinel], laidTests := true, laidLooks := .later }
def FnCompactedUptoCardSaid : Prop := Claim7.holds Tryd.pinned (.plain (OpenSpec.upto fnCompactedSpec)) fnCompactedUptoCard

/-- THE SECOND FORM's CARD OF 'laws.FnExactRegs'. -/
def fnExactRegsUptoCard : Claim7 := { stood := { row := fnExactRegsUptoRow, standIns := [], harness := (true, "85bba11d0984a596d850ce573b76003659da6734d9189a3fd34cef8784758217"), looks := false }, kinds := [], alts := [], laidByText := true, laidKinds := [.sentinel], laidTests := true, laidLooks := .later }
def FnExactRegsUptoCardSaid : Prop := Claim7.holds Tryd.pinned (.plain (OpenSpec.upto fnExactRegsSpec)) fnExactRegsUptoCard

/-- THE SECOND FORM's CARD OF 'laws.FnCopied'. -/
def fnCopiedUptoCard : Claim7 := { stood := { row := fnCopiedUptoRow, standIns := [], harness := (true, "85bba11d0984a596d850ce573b76003659da6734d9189a3fd34cef8784758217"), looks := false }, kinds := [], alts := [], laidByText := true, laidKinds := [.sentinel], laidTests := true, laidLooks := .later }
def FnCopiedUptoCardSaid : Prop := Claim7.holds Tryd.pinned (.plain (OpenSpec.upto fnCopiedSpec)) fnCopiedUptoCard

/-- THE SECOND FORM's CARD OF 'laws.FnExactJoined'. -/
def fnExactJoinedUptoCard : Claim7 := { stood := { row := fnExactJoinedUptoRow, standIns := [], harness := (true, "85bba11d0984a596d850ce573b76003659da6734d9189a3fd34cef8784758217"), looks := false }, kinds := [], alts := [], laidByText := true, laidKinds := [.sentinel, .sentinel], laidTests := true, laidLooks := .later }
def FnExactJoinedUptoCardSaid : Prop := Claim7.holds Tryd.pinned (.plain (OpenSpec.upto fnExactJoinedSpec)) fnExactJoinedUptoCard

/-- THE SECOND FORM's CARD OF 'laws.FnJoinTurns'. -/
def fnJoinTurnsUptoCard : Claim7 := { stood := { row := fnJoinTurnsUptoRow, standIns := [], harness := (true, "85bba11d0984a596d850ce573b76003659da6734d9189a3fd34cef8784758217"), looks := false }, kinds := [], alts := [], laidByText := true, laidKinds := [.sentinel, .sentinel], laidTests := true, laidLooks := .later }
def FnJoinTurnsUptoCardSaid : Prop := Claim7.holds Tryd.pinned (.plain (OpenSpec.upto fnJoinTurnsSpec)) fnJoinTurnsUptoCard

/-- THE SECOND FORM's CARD OF 'laws.FnReadBack'. -/
def fnReadBackUptoCard : Claim7 := { stood := { row := fnReadBackUptoRow, standIns := [], harness := (true, "85bba11d0984a596d850ce573b76003659da6734d9189a3fd34cef8784758217"), looks := false }, kinds := [], alts := [], laidByText := true, laidKinds := [.sentinel, .sentinel, .sentinel, .sentinel], laidTests := true, laidLooks := .later }
def FnReadBackUptoCardSaid : Prop := Claim7.holds Tryd.pinned (.plain (OpenSpec.upto fnReadBackSpec)) fnReadBackUptoCard

/-- THE SECOND FORM's CARD OF 'laws.FnReadDense'. -/
def fnReadDenseUptoCard : Claim7 := { stood := { row := fnReadDenseUptoRow, standIns := [], harness := (true, "85bba11d0984a596d850ce573b76003659da6734d9189a3fd34cef8784758217"), looks := false }, kinds := [], alts := [], laidByText := true, laidKinds := [.sentinel, .sentinel, .sentinel, .sentinel], laidTests := true, laidLooks := .later }
def FnReadDenseUptoCardSaid : Prop := Claim7.holds Tryd.pinned (.plain (OpenSpec.upto fnReadDenseSpec)) fnReadDenseUptoCard

/-- THE SECOND FORM's CARD OF 'laws.FnBack'. -/
def fnBackUptoCard : Claim7 := { stood := { row := fnBackUptoRow, standIns := [], harness := (true, "85bba11d0984a596d850ce573b76003659da6734d9189a3fd34cef8784758217"), looks := false }, kinds := [], alts := [], laidByText := true, laidKinds := [.sentinel, .sentinel, .sentinel, .sentinel], laidTests := true, laidLooks := .later }
def FnBackUptoCardSaid : Prop := Claim7.holds Tryd.pinned (.plain (OpenSpec.upto fnBackSpec)) fnBackUptoCard

/-- THE SECOND FORM's CARD OF 'laws.FnWrittenSpoilt'. -/
def fnWrittenSpoiltUptoCard : Claim7 := { stood := { row := fnWrittenSpoiltUptoRow, standIns := [], harness := (true, "85bba11d0984a596d850ce573b76003659da6734d9189a3fd34cef8784758217"), looks := false }, kinds := [], alts := [], laidByText := true, laidKinds := [.sentinel, .sentinel, .sentinel, .sentinel], laidTests := true, laidLooks := .later }
def FnWrittenSpoiltUptoCardSaid : Prop := Claim7.holds Tryd.pinned (.plain (OpenSpec.upto fnWrittenSpoiltSpec)) fnWrittenSpoiltUptoCard
end Rows
end Go.Proofs.YtoegfdndoeiolaaDoor
