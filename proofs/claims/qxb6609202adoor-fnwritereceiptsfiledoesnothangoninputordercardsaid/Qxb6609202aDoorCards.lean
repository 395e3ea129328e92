/-
  DERIVED. GIVEN WITH THE SEED: THE CARDS: each row of Qxb6609202aDoorRows.lean that lists a variable, with what it lists TIED to the program's text (the seventh form; the later family's looks); each row that meets fmt, with fmt's text TOLD by the authors' own Lean function (tested against real Go, not proved from fmt's source: count such statements apart). THE CARD IS WHAT COUNTS. Prove the row's statement (the work); the ties are given (Qxb6609202aDoorTie.lean); close each card by the builder's one call (the guide's Derived/Test/ToyasCard.lean, 'card_holds'). Laid BY PROGRAM, IN A SANDBOX (cutbox-door.mjs). By AI agents, Wed Nov 11 2026. No macro, syntax, notation, axiom, sorry.
-/
import Derived.Test.Qxb6609202aDoorRows
import GoSem.ClaimSeven
namespace Go.Proofs.Qxb6609202aDoor
namespace Rows

/-- THE TIED CARD OF 'zzlaws_pkg_sim_b1.FnWriteDiffusionPrintsEachRatioRoundedToSixDecimals'. -/
def fnWriteDiffusionPrintsEachRatioRoundedToSixDecimalsCard : Claim7 := { stood := { row := fnWriteDiffusionPrintsEachRatioRoundedToSixDecimalsRow, standIns := [], harness := (true, "b777683409d74376cf8d0e7d57d2df77dbe2c8e487acdfbdedc77901a4b23a57"), looks := true }, kinds := [], alts := [], laidByText := true, laidKinds := [.data, .data, .data, .data, .sentinel, .pinned, .pinned], laidTests := true, laidLooks := .later }
def FnWriteDiffusionPrintsEachRatioRoundedToSixDecimalsCardSaid : Prop := Claim7.holds Tryd.pinned (.plain (OpenSpec.ofChange fnWriteDiffusionPrintsEachRatioRoundedToSixDecimalsSpec)) fnWriteDiffusionPrintsEachRatioRoundedToSixDecimalsCard

/-- THE TIED CARD OF 'zzlaws_pkg_sim_b1.FnWriteDiffusionSameFileWhenCountsAndChunksScaleTogether'. -/
def fnWriteDiffusionSameFileWhenCountsAndChunksScaleTogetherCard : Claim7 := { stood := { row := fnWriteDiffusionSameFileWhenCountsAndChunksScaleTogetherRow, standIns := [], harness := (true, "b777683409d74376cf8d0e7d57d2df77dbe2c8e487acdfbdedc77901a4b23a57"), looks := true }, kinds := [], alts := [], laidByText := true, laidKinds := [.data, .data, .data, .data, .sentinel, .pinned, .pinned], laidTests := true, laidLooks := .later }
def FnWriteDiffusionSameFileWhenCountsAndChunksScaleTogetherCardSaid : Prop := Claim7.holds Tryd.pinned (.plain (OpenSpec.ofChange fnWriteDiffusionSameFileWhenCountsAndChunksScaleTogetherSpec)) fnWriteDiffusionSameFileWhenCountsAndChunksScaleTogetherCard

/-- THE TIED CARD OF 'zzlaws_pkg_sim_b1.FnWriteReceiptsSortsByChunkThenPeerAndPrintsEach'. -/
def fnWriteReceiptsSortsByChunkThenPeerAndPrintsEachCard : Claim7 := { stood := { row := fnWriteReceiptsSortsByChunkThenPeerAndPrintsEachRow, standIns := [], harness := (true, "b777683409d74376cf8d0e7d57d2df77dbe2c8e487acdfbdedc77901a4b23a57"), looks := true }, kinds := [], alts := [], laidByText := true, laidKinds := [.data, .data, .data, .sentinel], laidTests := true, laidLooks := .later }
def FnWriteReceiptsSortsByChunkThenPeerAndPrintsEachCardSaid : Prop := Claim7.holds Tryd.pinned (.plain (OpenSpec.ofChange fnWriteReceiptsSortsByChunkThenPeerAndPrintsEachSpec)) fnWriteReceiptsSortsByChunkThenPeerAndPrintsEachCard

/-- THE TIED CARD OF 'zzlaws_pkg_sim_b1.FnWriteReceiptsFileDoesNotHangOnInputOrder'. -/
def fnWriteReceiptsFileDoesNotHangOnInputOrderCard : Claim7 := { stood := { row := fnWriteReceiptsFileDoesNotHangOnInputOrderRow, standIns := [], harness := (true, "b777683409d74376cf8d0e7d57d2df77dbe2c8e487acdfbdedc77901a4b23a57"), looks := true }, kinds := [], alts := [], laidByText := true, laidKinds := [.data, .data, .data, .sentinel], laidTests := true, laidLooks := .later }
def FnWriteReceiptsFileDoesNotHangOnInputOrderCardSaid : Prop := Claim7.holds Tryd.pinned (.plain (OpenSpec.ofChange fnWriteReceiptsFileDoesNotHangOnInputOrderSpec)) fnWriteReceiptsFileDoesNotHangOnInputOrderCard
end Rows
end Go.Proofs.Qxb6609202aDoor
