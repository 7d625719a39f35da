/-
  DERIVED. GIVEN WITH THE SEED: THE CARDS: each row of YtohblegfpghejaaDoorRows.lean that lists a variable, with what it lists TIED to the program's text (the seventh form; the later family's looks); each row that meets fmt, with fmt's text TOLD by the authors' own Lean function (tested against real Go, not proved from fmt's source: count such statements apart). THE CARD IS WHAT COUNTS. Prove the row's statement (the work); the ties are given (YtohblegfpghejaaDoorTie.lean); close each card by the builder's one call (the guide's Derived/Test/ToyasCard.lean, 'card_holds'). Laid BY PROGRAM, IN A SANDBOX (cutbox-door.mjs). By AI agents, Wed Nov 11 2026. No macro, syntax, notation, axiom, sorry.
-/
import Derived.Test.YtohblegfpghejaaDoorRows
import GoSem.ClaimSeven
namespace Go.Proofs.YtohblegfpghejaaDoor
namespace Rows

/-- THE TIED CARD OF 'laws.FnButtonName'. -/
def fnButtonNameCard : Claim7 := { stood := { row := fnButtonNameRow, standIns := [], harness := (true, "e8965e0200d2d4e780a0f757376612ac8617cd3d59873a674c4f65a7f21dad6a"), looks := true }, kinds := [], alts := [], laidByText := true, laidKinds := [.data, .data, .data], laidTests := true, laidLooks := .later }
def FnButtonNameCardSaid : Prop := Claim7.holds Tryd.pinned (.plain (OpenSpec.ofChange fnButtonNameSpec)) fnButtonNameCard

/-- THE TIED CARD OF 'laws.FnButton'. -/
def fnButtonCard : Claim7 := { stood := { row := fnButtonRow, standIns := [], harness := (true, "e8965e0200d2d4e780a0f757376612ac8617cd3d59873a674c4f65a7f21dad6a"), looks := true }, kinds := [], alts := [], laidByText := true, laidKinds := [.data, .data, .data], laidTests := true, laidLooks := .later }
def FnButtonCardSaid : Prop := Claim7.holds Tryd.pinned (.plain (OpenSpec.ofChange fnButtonSpec)) fnButtonCard

/-- THE TIED CARD OF 'laws.FnButtonBits'. -/
def fnButtonBitsCard : Claim7 := { stood := { row := fnButtonBitsRow, standIns := [], harness := (true, "e8965e0200d2d4e780a0f757376612ac8617cd3d59873a674c4f65a7f21dad6a"), looks := true }, kinds := [], alts := [], laidByText := true, laidKinds := [.data, .data, .data], laidTests := true, laidLooks := .later }
def FnButtonBitsCardSaid : Prop := Claim7.holds Tryd.pinned (.plain (OpenSpec.ofChange fnButtonBitsSpec)) fnButtonBitsCard

/-- THE TIED CARD OF 'laws.FnKittyList'. -/
def fnKittyListCard : Claim7 := { stood := { row := fnKittyListRow, standIns := [], harness := (true, "e8965e0200d2d4e780a0f757376612ac8617cd3d59873a674c4f65a7f21dad6a"), looks := true }, kinds := [], alts := [], laidByText := true, laidKinds := [.data, .data, .data], laidTests := true, laidLooks := .later }
def FnKittyListCardSaid : Prop := Claim7.holds Tryd.pinned (.plain (OpenSpec.ofChange fnKittyListSpec)) fnKittyListCard

/-- THE TIED CARD OF 'laws.FnKittyBack'. -/
def fnKittyBackCard : Claim7 := { stood := { row := fnKittyBackRow, standIns := [], harness := (true, "e8965e0200d2d4e780a0f757376612ac8617cd3d59873a674c4f65a7f21dad6a"), looks := true }, kinds := [], alts := [], laidByText := true, laidKinds := [.data, .data, .data, .sentinel, .sentinel], laidTests := true, laidLooks := .later }
def FnKittyBackCardSaid : Prop := Claim7.holds Tryd.pinned (.plain (OpenSpec.ofChange fnKittyBackSpec)) fnKittyBackCard

/-- THE TIED CARD OF 'laws.FnKittyParse'. -/
def fnKittyParseCard : Claim7 := { stood := { row := fnKittyParseRow, standIns := [], harness := (true, "e8965e0200d2d4e780a0f757376612ac8617cd3d59873a674c4f65a7f21dad6a"), looks := true }, kinds := [], alts := [], laidByText := true, laidKinds := [.data, .data, .data, .sentinel, .sentinel], laidTests := true, laidLooks := .later }
def FnKittyParseCardSaid : Prop := Claim7.holds Tryd.pinned (.plain (OpenSpec.ofChange fnKittyParseSpec)) fnKittyParseCard

/-- THE TIED CARD OF 'laws.FnDiacritic'. -/
def fnDiacriticCard : Claim7 := { stood := { row := fnDiacriticRow, standIns := [], harness := (true, "e8965e0200d2d4e780a0f757376612ac8617cd3d59873a674c4f65a7f21dad6a"), looks := true }, kinds := [], alts := [], laidByText := true, laidKinds := [.data, .data, .data, .data], laidTests := true, laidLooks := .later }
def FnDiacriticCardSaid : Prop := Claim7.holds Tryd.pinned (.plain (OpenSpec.ofChange fnDiacriticSpec)) fnDiacriticCard

/-- THE SECOND FORM's CARD OF 'laws.FnButtonName'. -/
def fnButtonNameUptoCard : Claim7 := { stood := { row := fnButtonNameUptoRow, standIns := [], harness := (true, "e8965e0200d2d4e780a0f757376612ac8617cd3d59873a674c4f65a7f21dad6a"), looks := true }, kinds := [], alts := [], laidByText := true, laidKinds := [.data, .data, .data], laidTests := true, laidLooks := .later }
def FnButtonNameUptoCardSaid : Prop := Claim7.holds Tryd.pinned (.plain (OpenSpec.upto fnButtonNameSpec)) fnButtonNameUptoCard

/-- THE SECOND FORM's CARD OF 'laws.FnButton'. -/
def fnButtonUptoCard : Claim7 := { stood := { row := fnButtonUptoRow, standIns := [], harness := (true, "e8965e0200d2d4e780a0f757376612ac8617cd3d59873a674c4f65a7f21dad6a"), looks := true }, kinds := [], alts := [], laidByText := true, laidKinds := [.data, .data, .data], laidTests := true, laidLooks := .later }
def FnButtonUptoCardSaid : Prop := Claim7.holds Tryd.pinned (.plain (OpenSpec.upto fnButtonSpec)) fnButtonUptoCard

/-- THE SECOND FORM's CARD OF 'laws.FnButtonBits'. -/
def fnButtonBitsUptoCard : Claim7 := { stood := { row := fnButtonBitsUptoRow, standIns := [], harness := (true, "e8965e0200d2d4e780a0f757376612ac8617cd3d59873a674c4f65a7f21dad6a"), looks := true }, kinds := [], alts := [], laidByText := true, laidKinds := [.data, .data, .data], laidTests := true, laidLooks := .later }
def FnButtonBitsUptoCardSaid : Prop := Claim7.holds Tryd.pinned (.plain (OpenSpec.upto fnButtonBitsSpec)) fnButtonBitsUptoCard

/-- THE SECOND FORM's CARD OF 'laws.FnKittyList'. -/
def fnKittyListUptoCard : Claim7 := { stood := { row := fnKittyListUptoRow, standIns := [], harness := (true, "e8965e0200d2d4e780a0f757376612ac8617cd3d59873a674c4f65a7f21dad6a"), looks := true }, kinds := [], alts := [], laidByText := true, laidKinds := [.data, .data, .data], laidTests := true, laidLooks := .later }
def FnKittyListUptoCardSaid : Prop := Claim7.holds Tryd.pinned (.plain (OpenSpec.upto fnKittyListSpec)) fnKittyListUptoCard

/-- THE SECOND FORM's CARD OF 'laws.FnKittyBack'. -/
def fnKittyBackUptoCard : Claim7 := { stood := { row := fnKittyBackUptoRow, standIns := [], harness := (true, "e8965e0200d2d4e780a0f757376612ac8617cd3d59873a674c4f65a7f21dad6a"), looks := true }, kinds := [], alts := [], laidByText := true, laidKinds := [.data, .data, .data, .sentinel, .sentinel], laidTests := true, laidLooks := .later }
def FnKittyBackUptoCardSaid : Prop := Claim7.holds Tryd.pinned (.plain (OpenSpec.upto fnKittyBackSpec)) fnKittyBackUptoCard

/-- THE SECOND FORM's CARD OF 'laws.FnKittyParse'. -/
def fnKittyParseUptoCard : Claim7 := { stood := { row := fnKittyParseUptoRow, standIns := [], harness := (true, "e8965e0200d2d4e780a0f757376612ac8617cd3d59873a674c4f65a7f21dad6a"), looks := true }, kinds := [], alts := [], laidByText := true, laidKinds := [.data, .data, .data, .sentinel, .sentinel], laidTests := true, laidLooks := .later }
def FnKittyParseUptoCardSaid : Prop := Claim7.holds Tryd.pinned (.plain (OpenSpec.upto fnKittyParseSpec)) fnKittyParseUptoCard

/-- THE SECOND FORM's CARD OF 'laws.FnDiacritic'. -/
def fnDiacriticUptoCard : Claim7 := { stood := { row := fnDiacriticUptoRow, standIns := [], harness := (true, "e8965e0200d2d4e780a0f757376612ac8617cd3d59873a674c4f65a7f21dad6a"), looks := true }, kinds := [], alts := [], laidByText := true, laidKinds := [.data, .data, .data, .data], laidTests := true, laidLooks := .later }
def FnDiacriticUptoCardSaid : Prop := Claim7.holds Tryd.pinned (.plain (OpenSpec.upto fnDiacriticSpec)) fnDiacriticUptoCard
end Rows
end Go.Proofs.YtohblegfpghejaaDoor
