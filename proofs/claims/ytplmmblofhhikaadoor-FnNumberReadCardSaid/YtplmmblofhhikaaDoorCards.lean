/-
  DERIVED. GIVEN WITH THE SEED: THE CARDS: each row of YtplmmblofhhikaaDoorRows.lean that lists a variable, with what it lists TIED to the program's text (the seventh form; the later family's looks); each row that meets fmt, with fmt's text TOLD by the authors' own Lean function (tested against real Go, not proved from fmt's source: count such statements apart). THE CARD IS WHAT COUNTS. Prove the row's statement (the work); the ties are given (YtplmmblofhhikaaDoorTie.lean); close each card by the builder's one call (the guide's Derived/Test/ToyasCard.lean, 'card_holds'). Laid BY PROGRAM, IN A SANDBOX (cutbox-door.mjs). By AI agents, Wed Nov 11 2026. No macro, syntax, notation, axiom, sorry.
-/
import Derived.Test.YtplmmblofhhikaaDoorRows
import GoSem.ClaimSeven
namespace Go.Proofs.YtplmmblofhhikaaDoor
namespace Rows

/-- THE TIED CARD OF 'laws.FnMakeNumber'. -/
def fnMakeNumberCard : Claim7 := { stood := { row := fnMakeNumberRow, standIns := [], harness := (true, "4cc7dcc22dc739ef71b0a3a5de1365dfdbdc7275d2ca2761a5ce365df8e4f7f4"), looks := true }, kinds := [], alts := [], laidByText := true, laidKinds := [.data, .data, .data], laidTests := true, laidLooks := .later }
def FnMakeNumberCardSaid : Prop := Claim7.holds Tryd.pinned (.plain (OpenSpec.ofChange fnMakeNumberSpec)) fnMakeNumberCard

/-- THE TIED CARD OF 'laws.FnNumberRead'. -/
def fnNumberReadCard : Claim7 := { stood := { row := fnNumberReadRow, standIns := [], harness := (true, "4cc7dcc22dc739ef71b0a3a5de1365dfdbdc7275d2ca2761a5ce365df8e4f7f4"), looks := true }, kinds := [], alts := [], laidByText := true, laidKinds := [.data, .data, .data], laidTests := true, laidLooks := .later }
def FnNumberReadCardSaid : Prop := Claim7.holds Tryd.pinned (.plain (OpenSpec.ofChange fnNumberReadSpec)) fnNumberReadCard

/-- THE TIED CARD OF 'laws.FnMakePair'. -/
def fnMakePairCard : Claim7 := { stood := { row := fnMakePairRow, standIns := [], harness := (true, "4cc7dcc22dc739ef71b0a3a5de1365dfdbdc7275d2ca2761a5ce365df8e4f7f4"), looks := true }, kinds := [], alts := [], laidByText := true, laidKinds := [.data, .data, .data], laidTests := true, laidLooks := .later }
def FnMakePairCardSaid : Prop := Claim7.holds Tryd.pinned (.plain (OpenSpec.ofChange fnMakePairSpec)) fnMakePairCard

/-- THE TIED CARD OF 'laws.FnPairRead'. -/
def fnPairReadCard : Claim7 := { stood := { row := fnPairReadRow, standIns := [], harness := (true, "4cc7dcc22dc739ef71b0a3a5de1365dfdbdc7275d2ca2761a5ce365df8e4f7f4"), looks := true }, kinds := [], alts := [], laidByText := true, laidKinds := [.data, .data, .data], laidTests := true, laidLooks := .later }
def FnPairReadCardSaid : Prop := Claim7.holds Tryd.pinned (.plain (OpenSpec.ofChange fnPairReadSpec)) fnPairReadCard

/-- THE TIED CARD OF 'laws.FnMakeList'. -/
def fnMakeListCard : Claim7 := { stood := { row := fnMakeListRow, standIns := [], harness := (true, "4cc7dcc22dc739ef71b0a3a5de1365dfdbdc7275d2ca2761a5ce365df8e4f7f4"), looks := true }, kinds := [], alts := [], laidByText := true, laidKinds := [.data, .data, .data], laidTests := true, laidLooks := .later }
def FnMakeListCardSaid : Prop := Claim7.holds Tryd.pinned (.plain (OpenSpec.ofChange fnMakeListSpec)) fnMakeListCard

/-- THE TIED CARD OF 'laws.FnMakeModes'. -/
def fnMakeModesCard : Claim7 := { stood := { row := fnMakeModesRow, standIns := [], harness := (true, "4cc7dcc22dc739ef71b0a3a5de1365dfdbdc7275d2ca2761a5ce365df8e4f7f4"), looks := true }, kinds := [], alts := [], laidByText := true, laidKinds := [.data, .data, .data], laidTests := true, laidLooks := .later }
def FnMakeModesCardSaid : Prop := Claim7.holds Tryd.pinned (.plain (OpenSpec.ofChange fnMakeModesSpec)) fnMakeModesCard

/-- THE TIED CARD OF 'laws.FnModesApart'. -/
def fnModesApartCard : Claim7 := { stood := { row := fnModesApartRow, standIns := [], harness := (true, "4cc7dcc22dc739ef71b0a3a5de1365dfdbdc7275d2ca2761a5ce365df8e4f7f4"), looks := true }, kinds := [], alts := [], laidByText := true, laidKinds := [.data, .data, .data], laidTests := true, laidLooks := .later }
def FnModesApartCardSaid : Prop := Claim7.holds Tryd.pinned (.plain (OpenSpec.ofChange fnModesApartSpec)) fnModesApartCard

/-- THE TIED CARD OF 'laws.FnMakeRequest'. -/
def fnMakeRequestCard : Claim7 := { stood := { row := fnMakeRequestRow, standIns := [], harness := (true, "4cc7dcc22dc739ef71b0a3a5de1365dfdbdc7275d2ca2761a5ce365df8e4f7f4"), looks := true }, kinds := [], alts := [], laidByText := true, laidKinds := [.data, .data, .data], laidTests := true, laidLooks := .later }
def FnMakeRequestCardSaid : Prop := Claim7.holds Tryd.pinned (.plain (OpenSpec.ofChange fnMakeRequestSpec)) fnMakeRequestCard

/-- THE TIED CARD OF 'laws.FnMakeReport'. -/
def fnMakeReportCard : Claim7 := { stood := { row := fnMakeReportRow, standIns := [], harness := (true, "4cc7dcc22dc739ef71b0a3a5de1365dfdbdc7275d2ca2761a5ce365df8e4f7f4"), looks := true }, kinds := [], alts := [], laidByText := true, laidKinds := [.data, .data, .data], laidTests := true, laidLooks := .later }
def FnMakeReportCardSaid : Prop := Claim7.holds Tryd.pinned (.plain (OpenSpec.ofChange fnMakeReportSpec)) fnMakeReportCard

/-- THE TIED CARD OF 'laws.FnSixel'. -/
def fnSixelCard : Claim7 := { stood := { row := fnSixelRow, standIns := [], harness := (true, "4cc7dcc22dc739ef71b0a3a5de1365dfdbdc7275d2ca2761a5ce365df8e4f7f4"), looks := true }, kinds := [], alts := [], laidByText := true, laidKinds := [.data, .data, .data, .sentinel], laidTests := true, laidLooks := .later }
def FnSixelCardSaid : Prop := Claim7.holds Tryd.pinned (.plain (OpenSpec.ofChange fnSixelSpec)) fnSixelCard

/-- THE TIED CARD OF 'laws.FnMouseSgr'. -/
def fnMouseSgrCard : Claim7 := { stood := { row := fnMouseSgrRow, standIns := [], harness := (true, "4cc7dcc22dc739ef71b0a3a5de1365dfdbdc7275d2ca2761a5ce365df8e4f7f4"), looks := true }, kinds := [], alts := [], laidByText := true, laidKinds := [.data, .data, .data], laidTests := true, laidLooks := .later }
def FnMouseSgrCardSaid : Prop := Claim7.holds Tryd.pinned (.plain (OpenSpec.ofChange fnMouseSgrSpec)) fnMouseSgrCard

/-- THE TIED CARD OF 'laws.FnCharset'. -/
def fnCharsetCard : Claim7 := { stood := { row := fnCharsetRow, standIns := [], harness := (true, "4cc7dcc22dc739ef71b0a3a5de1365dfdbdc7275d2ca2761a5ce365df8e4f7f4"), looks := true }, kinds := [], alts := [], laidByText := true, laidKinds := [.data, .data, .data], laidTests := true, laidLooks := .later }
def FnCharsetCardSaid : Prop := Claim7.holds Tryd.pinned (.plain (OpenSpec.ofChange fnCharsetSpec)) fnCharsetCard

/-- THE SECOND FORM's CARD OF 'laws.FnMakeNumber'. -/
def fnMakeNumberUptoCard : Claim7 := { stood := { row := fnMakeNumberUptoRow, standIns := [], harness := (true, "4cc7dcc22dc739ef71b0a3a5de1365dfdbdc7275d2ca2761a5ce365df8e4f7f4"), looks := true }, kinds := [], alts := [], laidByText := true, laidKinds := [.data, .data, .data], laidTests := true, laidLooks := .later }
def FnMakeNumberUptoCardSaid : Prop := Claim7.holds Tryd.pinned (.plain (OpenSpec.upto fnMakeNumberSpec)) fnMakeNumberUptoCard

/-- THE SECOND FORM's CARD OF 'laws.FnNumberRead'. -/
def fnNumberReadUptoCard : Claim7 := { stood := { row := fnNumberReadUptoRow, standIns := [], harness := (true, "4cc7dcc22dc739ef71b0a3a5de1365dfdbdc7275d2ca2761a5ce365df8e4f7f4"), looks := true }, kinds := [], alts := [], laidByText := true, laidKinds := [.data, .data, .data], laidTests := true, laidLooks := .later }
def FnNumberReadUptoCardSaid : Prop := Claim7.holds Tryd.pinned (.plain (OpenSpec.upto fnNumberReadSpec)) fnNumberReadUptoCard

/-- THE SECOND FORM's CARD OF 'laws.FnMakePair'. -/
def fnMakePairUptoCard : Claim7 := { stood := { row := fnMakePairUptoRow, standIns := [], harness := (true, "4cc7dcc22dc739ef71b0a3a5de1365dfdbdc7275d2ca2761a5ce365df8e4f7f4"), looks := true }, kinds := [], alts := [], laidByText := true, laidKinds := [.data, .data, .data], laidTests := true, laidLooks := .later }
def FnMakePairUptoCardSaid : Prop := Claim7.holds Tryd.pinned (.plain (OpenSpec.upto fnMakePairSpec)) fnMakePairUptoCard

/-- THE SECOND FORM's CARD OF 'laws.FnPairRead'. -/
def fnPairReadUptoCard : Claim7 := { stood := { row := fnPairReadUptoRow, standIns := [], harness := (true, "4cc7dcc22dc739ef71b0a3a5de1365dfdbdc7275d2ca2761a5ce365df8e4f7f4"), looks := true }, kinds := [], alts := [], laidByText := true, laidKinds := [.data, .data, .data], laidTests := true, laidLooks := .later }
def FnPairReadUptoCardSaid : Prop := Claim7.holds Tryd.pinned (.plain (OpenSpec.upto fnPairReadSpec)) fnPairReadUptoCard

/-- THE SECOND FORM's CARD OF 'laws.FnMakeList'. -/
def fnMakeListUptoCard : Claim7 := { stood := { row := fnMakeListUptoRow, standIns := [], harness := (true, "4cc7dcc22dc739ef71b0a3a5de1365dfdbdc7275d2ca2761a5ce365df8e4f7f4"), looks := true }, kinds := [], alts := [], laidByText := true, laidKinds := [.data, .data, .data], laidTests := true, laidLooks := .later }
def FnMakeListUptoCardSaid : Prop := Claim7.holds Tryd.pinned (.plain (OpenSpec.upto fnMakeListSpec)) fnMakeListUptoCard

/-- THE SECOND FORM's CARD OF 'laws.FnMakeModes'. -/
def fnMakeModesUptoCard : Claim7 := { stood := { row := fnMakeModesUptoRow, standIns := [], harness := (true, "4cc7dcc22dc739ef71b0a3a5de1365dfdbdc7275d2ca2761a5ce365df8e4f7f4"), looks := true }, kinds := [], alts := [], laidByText := true, laidKinds := [.data, .data, .data], laidTests := true, laidLooks := .later }
def FnMakeModesUptoCardSaid : Prop := Claim7.holds Tryd.pinned (.plain (OpenSpec.upto fnMakeModesSpec)) fnMakeModesUptoCard

/-- THE SECOND FORM's CARD OF 'laws.FnModesApart'. -/
def fnModesApartUptoCard : Claim7 := { stood := { row := fnModesApartUptoRow, standIns := [], harness := (true, "4cc7dcc22dc739ef71b0a3a5de1365dfdbdc7275d2ca2761a5ce365df8e4f7f4"), looks := true }, kinds := [], alts := [], laidByText := true, laidKinds := [.data, .data, .data], laidTests := true, laidLooks := .later }
def FnModesApartUptoCardSaid : Prop := Claim7.holds Tryd.pinned (.plain (OpenSpec.upto fnModesApartSpec)) fnModesApartUptoCard

/-- THE SECOND FORM's CARD OF 'laws.FnMakeRequest'. -/
def fnMakeRequestUptoCard : Claim7 := { stood := { row := fnMakeRequestUptoRow, standIns := [], harness := (true, "4cc7dcc22dc739ef71b0a3a5de1365dfdbdc7275d2ca2761a5ce365df8e4f7f4"), looks := true }, kinds := [], alts := [], laidByText := true, laidKinds := [.data, .data, .data], laidTests := true, laidLooks := .later }
def FnMakeRequestUptoCardSaid : Prop := Claim7.holds Tryd.pinned (.plain (OpenSpec.upto fnMakeRequestSpec)) fnMakeRequestUptoCard

/-- THE SECOND FORM's CARD OF 'laws.FnMakeReport'. -/
def fnMakeReportUptoCard : Claim7 := { stood := { row := fnMakeReportUptoRow, standIns := [], harness := (true, "4cc7dcc22dc739ef71b0a3a5de1365dfdbdc7275d2ca2761a5ce365df8e4f7f4"), looks := true }, kinds := [], alts := [], laidByText := true, laidKinds := [.data, .data, .data], laidTests := true, laidLooks := .later }
def FnMakeReportUptoCardSaid : Prop := Claim7.holds Tryd.pinned (.plain (OpenSpec.upto fnMakeReportSpec)) fnMakeReportUptoCard

/-- THE SECOND FORM's CARD OF 'laws.FnSixel'. -/
def fnSixelUptoCard : Claim7 := { stood := { row := fnSixelUptoRow, standIns := [], harness := (true, "4cc7dcc22dc739ef71b0a3a5de1365dfdbdc7275d2ca2761a5ce365df8e4f7f4"), looks := true }, kinds := [], alts := [], laidByText := true, laidKinds := [.data, .data, .data, .sentinel], laidTests := true, laidLooks := .later }
def FnSixelUptoCardSaid : Prop := Claim7.holds Tryd.pinned (.plain (OpenSpec.upto fnSixelSpec)) fnSixelUptoCard

/-- THE SECOND FORM's CARD OF 'laws.FnMouseSgr'. -/
def fnMouseSgrUptoCard : Claim7 := { stood := { row := fnMouseSgrUptoRow, standIns := [], harness := (true, "4cc7dcc22dc739ef71b0a3a5de1365dfdbdc7275d2ca2761a5ce365df8e4f7f4"), looks := true }, kinds := [], alts := [], laidByText := true, laidKinds := [.data, .data, .data], laidTests := true, laidLooks := .later }
def FnMouseSgrUptoCardSaid : Prop := Claim7.holds Tryd.pinned (.plain (OpenSpec.upto fnMouseSgrSpec)) fnMouseSgrUptoCard

/-- THE SECOND FORM's CARD OF 'laws.FnCharset'. -/
def fnCharsetUptoCard : Claim7 := { stood := { row := fnCharsetUptoRow, standIns := [], harness := (true, "4cc7dcc22dc739ef71b0a3a5de1365dfdbdc7275d2ca2761a5ce365df8e4f7f4"), looks := true }, kinds := [], alts := [], laidByText := true, laidKinds := [.data, .data, .data], laidTests := true, laidLooks := .later }
def FnCharsetUptoCardSaid : Prop := Claim7.holds Tryd.pinned (.plain (OpenSpec.upto fnCharsetSpec)) fnCharsetUptoCard
end Rows
end Go.Proofs.YtplmmblofhhikaaDoor
