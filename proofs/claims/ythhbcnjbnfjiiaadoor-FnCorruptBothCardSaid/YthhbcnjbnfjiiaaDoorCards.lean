/-
  DERIVED. GIVEN WITH THE SEED: THE CARDS: each row of YthhbcnjbnfjiiaaDoorRows.lean that lists a variable, with what it lists TIED to the program's text (the seventh form; the later family's looks); each row that meets fmt, with fmt's text TOLD by the authors' own Lean function (tested against real Go, not proved from fmt's source: count such statements apart). THE CARD IS WHAT COUNTS. Prove the row's statement (the work); the ties are given (YthhbcnjbnfjiiaaDoorTie.lean); close each card by the builder's one call (the guide's Derived/Test/ToyasCard.lean, 'card_holds'). Laid BY PROGRAM, IN A SANDBOX (cutbox-door.mjs). By AI agents, Wed Nov 11 2026. No macro, syntax, notation, axiom, sorry.
-/
import Derived.Test.YthhbcnjbnfjiiaaDoorRows
import GoSem.ClaimSeven
namespace Go.Proofs.YthhbcnjbnfjiiaaDoor
namespace Rows

/-- THE TIED CARD OF 'laws.FnSpaces'. -/
def fnSpacesCard : Claim7 := { stood := { row := fnSpacesRow, standIns := [], harness := (true, "a25b5365dd066f0f7ffcfc3ad2cfca5036d5827ee20b6cfb9f9e63ef53f57d4a"), looks := true }, kinds := [], alts := [], laidByText := true, laidKinds := [.handle], laidTests := true, laidLooks := .later }
def FnSpacesCardSaid : Prop := Claim7.holds Tryd.pinned (.plain (OpenSpec.ofChange fnSpacesSpec)) fnSpacesCard

/-- THE TIED CARD OF 'laws.FnTail'. -/
def fnTailCard : Claim7 := { stood := { row := fnTailRow, standIns := [], harness := (true, "a25b5365dd066f0f7ffcfc3ad2cfca5036d5827ee20b6cfb9f9e63ef53f57d4a"), looks := true }, kinds := [], alts := [], laidByText := true, laidKinds := [.handle], laidTests := true, laidLooks := .later }
def FnTailCardSaid : Prop := Claim7.holds Tryd.pinned (.plain (OpenSpec.ofChange fnTailSpec)) fnTailCard

/-- THE TIED CARD OF 'laws.FnCorruptBoth'. -/
def fnCorruptBothCard : Claim7 := { stood := { row := fnCorruptBothRow, standIns := [], harness := (true, "a25b5365dd066f0f7ffcfc3ad2cfca5036d5827ee20b6cfb9f9e63ef53f57d4a"), looks := true }, kinds := [], alts := [], laidByText := true, laidKinds := [.handle], laidTests := true, laidLooks := .later }
def FnCorruptBothCardSaid : Prop := Claim7.holds Tryd.pinned (.plain (OpenSpec.ofChange fnCorruptBothSpec)) fnCorruptBothCard

/-- THE TIED CARD OF 'laws.FnDecodeParts'. -/
def fnDecodePartsCard : Claim7 := { stood := { row := fnDecodePartsRow, standIns := [], harness := (true, "a25b5365dd066f0f7ffcfc3ad2cfca5036d5827ee20b6cfb9f9e63ef53f57d4a"), looks := true }, kinds := [], alts := [], laidByText := true, laidKinds := [.handle], laidTests := true, laidLooks := .later }
def FnDecodePartsCardSaid : Prop := Claim7.holds Tryd.pinned (.plain (OpenSpec.ofChange fnDecodePartsSpec)) fnDecodePartsCard

/-- THE TIED CARD OF 'laws.FnCorrupt'. -/
def fnCorruptCard : Claim7 := { stood := { row := fnCorruptRow, standIns := [], harness := (true, "a25b5365dd066f0f7ffcfc3ad2cfca5036d5827ee20b6cfb9f9e63ef53f57d4a"), looks := true }, kinds := [], alts := [], laidByText := true, laidKinds := [.handle], laidTests := true, laidLooks := .later }
def FnCorruptCardSaid : Prop := Claim7.holds Tryd.pinned (.plain (OpenSpec.ofChange fnCorruptSpec)) fnCorruptCard

/-- THE TIED CARD OF 'laws.FnCorruptPlace'. -/
def fnCorruptPlaceCard : Claim7 := { stood := { row := fnCorruptPlaceRow, standIns := [], harness := (true, "a25b5365dd066f0f7ffcfc3ad2cfca5036d5827ee20b6cfb9f9e63ef53f57d4a"), looks := true }, kinds := [], alts := [], laidByText := true, laidKinds := [.handle], laidTests := true, laidLooks := .later }
def FnCorruptPlaceCardSaid : Prop := Claim7.holds Tryd.pinned (.plain (OpenSpec.ofChange fnCorruptPlaceSpec)) fnCorruptPlaceCard

/-- THE TIED CARD OF 'laws.FnDecode'. -/
def fnDecodeCard : Claim7 := { stood := { row := fnDecodeRow, standIns := [], harness := (true, "a25b5365dd066f0f7ffcfc3ad2cfca5036d5827ee20b6cfb9f9e63ef53f57d4a"), looks := true }, kinds := [], alts := [], laidByText := true, laidKinds := [.handle], laidTests := true, laidLooks := .later }
def FnDecodeCardSaid : Prop := Claim7.holds Tryd.pinned (.plain (OpenSpec.ofChange fnDecodeSpec)) fnDecodeCard

/-- THE TIED CARD OF 'laws.FnDecodeMore'. -/
def fnDecodeMoreCard : Claim7 := { stood := { row := fnDecodeMoreRow, standIns := [], harness := (true, "a25b5365dd066f0f7ffcfc3ad2cfca5036d5827ee20b6cfb9f9e63ef53f57d4a"), looks := true }, kinds := [], alts := [], laidByText := true, laidKinds := [.handle], laidTests := true, laidLooks := .later }
def FnDecodeMoreCardSaid : Prop := Claim7.holds Tryd.pinned (.plain (OpenSpec.ofChange fnDecodeMoreSpec)) fnDecodeMoreCard

/-- THE TIED CARD OF 'laws.FnTwoDecoders'. -/
def fnTwoDecodersCard : Claim7 := { stood := { row := fnTwoDecodersRow, standIns := [], harness := (true, "a25b5365dd066f0f7ffcfc3ad2cfca5036d5827ee20b6cfb9f9e63ef53f57d4a"), looks := true }, kinds := [], alts := [], laidByText := true, laidKinds := [.handle], laidTests := true, laidLooks := .later }
def FnTwoDecodersCardSaid : Prop := Claim7.holds Tryd.pinned (.plain (OpenSpec.ofChange fnTwoDecodersSpec)) fnTwoDecodersCard

/-- THE TIED CARD OF 'laws.FnEncodeDecode'. -/
def fnEncodeDecodeCard : Claim7 := { stood := { row := fnEncodeDecodeRow, standIns := [], harness := (true, "a25b5365dd066f0f7ffcfc3ad2cfca5036d5827ee20b6cfb9f9e63ef53f57d4a"), looks := true }, kinds := [], alts := [], laidByText := true, laidKinds := [.handle], laidTests := true, laidLooks := .later }
def FnEncodeDecodeCardSaid : Prop := Claim7.holds Tryd.pinned (.plain (OpenSpec.ofChange fnEncodeDecodeSpec)) fnEncodeDecodeCard

/-- THE SECOND FORM's CARD OF 'laws.FnSpaces'. -/
def fnSpacesUptoCard : Claim7 := { stood := { row := fnSpacesUptoRow, standIns := [], harness := (true, "a25b5365dd066f0f7ffcfc3ad2cfca5036d5827ee20b6cfb9f9e63ef53f57d4a"), looks := true }, kinds := [], alts := [], laidByText := true, laidKinds := [.handle], laidTests := true, laidLooks := .later }
def FnSpacesUptoCardSaid : Prop := Claim7.holds Tryd.pinned (.plain (OpenSpec.upto fnSpacesSpec)) fnSpacesUptoCard

/-- THE SECOND FORM's CARD OF 'laws.FnTail'. -/
def fnTailUptoCard : Claim7 := { stood := { row := fnTailUptoRow, standIns := [], harness := (true, "a25b5365dd066f0f7ffcfc3ad2cfca5036d5827ee20b6cfb9f9e63ef53f57d4a"), looks := true }, kinds := [], alts := [], laidByText := true, laidKinds := [.handle], laidTests := true, laidLooks := .later }
def FnTailUptoCardSaid : Prop := Claim7.holds Tryd.pinned (.plain (OpenSpec.upto fnTailSpec)) fnTailUptoCard

/-- THE SECOND FORM's CARD OF 'laws.FnCorruptBoth'. -/
def fnCorruptBothUptoCard : Claim7 := { stood := { row := fnCorruptBothUptoRow, standIns := [], harness := (true, "a25b5365dd066f0f7ffcfc3ad2cfca5036d5827ee20b6cfb9f9e63ef53f57d4a"), looks := true }, kinds := [], alts := [], laidByText := true, laidKinds := [.handle], laidTests := true, laidLooks := .later }
def FnCorruptBothUptoCardSaid : Prop := Claim7.holds Tryd.pinned (.plain (OpenSpec.upto fnCorruptBothSpec)) fnCorruptBothUptoCard

/-- THE SECOND FORM's CARD OF 'laws.FnDecodeParts'. -/
def fnDecodePartsUptoCard : Claim7 := { stood := { row := fnDecodePartsUptoRow, standIns := [], harness := (true, "a25b5365dd066f0f7ffcfc3ad2cfca5036d5827ee20b6cfb9f9e63ef53f57d4a"), looks := true }, kinds := [], alts := [], laidByText := true, laidKinds := [.handle], laidTests := true, laidLooks := .later }
def FnDecodePartsUptoCardSaid : Prop := Claim7.holds Tryd.pinned (.plain (OpenSpec.upto fnDecodePartsSpec)) fnDecodePartsUptoCard

/-- THE SECOND FORM's CARD OF 'laws.FnCorrupt'. -/
def fnCorruptUptoCard : Claim7 := { stood := { row := fnCorruptUptoRow, standIns := [], harness := (true, "a25b5365dd066f0f7ffcfc3ad2cfca5036d5827ee20b6cfb9f9e63ef53f57d4a"), looks := true }, kinds := [], alts := [], laidByText := true, laidKinds := [.handle], laidTests := true, laidLooks := .later }
def FnCorruptUptoCardSaid : Prop := Claim7.holds Tryd.pinned (.plain (OpenSpec.upto fnCorruptSpec)) fnCorruptUptoCard

/-- THE SECOND FORM's CARD OF 'laws.FnCorruptPlace'. -/
def fnCorruptPlaceUptoCard : Claim7 := { stood := { row := fnCorruptPlaceUptoRow, standIns := [], harness := (true, "a25b5365dd066f0f7ffcfc3ad2cfca5036d5827ee20b6cfb9f9e63ef53f57d4a"), looks := true }, kinds := [], alts := [], laidByText := true, laidKinds := [.handle], laidTests := true, laidLooks := .later }
def FnCorruptPlaceUptoCardSaid : Prop := Claim7.holds Tryd.pinned (.plain (OpenSpec.upto fnCorruptPlaceSpec)) fnCorruptPlaceUptoCard

/-- THE SECOND FORM's CARD OF 'laws.FnDecode'. -/
def fnDecodeUptoCard : Claim7 := { stood := { row := fnDecodeUptoRow, standIns := [], harness := (true, "a25b5365dd066f0f7ffcfc3ad2cfca5036d5827ee20b6cfb9f9e63ef53f57d4a"), looks := true }, kinds := [], alts := [], laidByText := true, laidKinds := [.handle], laidTests := true, laidLooks := .later }
def FnDecodeUptoCardSaid : Prop := Claim7.holds Tryd.pinned (.plain (OpenSpec.upto fnDecodeSpec)) fnDecodeUptoCard

/-- THE SECOND FORM's CARD OF 'laws.FnDecodeMore'. -/
def fnDecodeMoreUptoCard : Claim7 := { stood := { row := fnDecodeMoreUptoRow, standIns := [], harness := (true, "a25b5365dd066f0f7ffcfc3ad2cfca5036d5827ee20b6cfb9f9e63ef53f57d4a"), looks := true }, kinds := [], alts := [], laidByText := true, laidKinds := [.handle], laidTests := true, laidLooks := .later }
def FnDecodeMoreUptoCardSaid : Prop := Claim7.holds Tryd.pinned (.plain (OpenSpec.upto fnDecodeMoreSpec)) fnDecodeMoreUptoCard

/-- THE SECOND FORM's CARD OF 'laws.FnTwoDecoders'. -/
def fnTwoDecodersUptoCard : Claim7 := { stood := { row := fnTwoDecodersUptoRow, standIns := [], harness := (true, "a25b5365dd066f0f7ffcfc3ad2cfca5036d5827ee20b6cfb9f9e63ef53f57d4a"), looks := true }, kinds := [], alts := [], laidByText := true, laidKinds := [.handle], laidTests := true, laidLooks := .later }
def FnTwoDecodersUptoCardSaid : Prop := Claim7.holds Tryd.pinned (.plain (OpenSpec.upto fnTwoDecodersSpec)) fnTwoDecodersUptoCard

/-- THE SECOND FORM's CARD OF 'laws.FnEncodeDecode'. -/
def fnEncodeDecodeUptoCard : Claim7 := { stood := { row := fnEncodeDecodeUptoRow, standIns := [], harness := (true, "a25b5365dd066f0f7ffcfc3ad2cfca5036d5827ee20b6cfb9f9e63ef53f57d4a"), looks := true }, kinds := [], alts := [], laidByText := true, laidKinds := [.handle], laidTests := true, laidLooks := .later }
def FnEncodeDecodeUptoCardSaid : Prop := Claim7.holds Tryd.pinned (.plain (OpenSpec.upto fnEncodeDecodeSpec)) fnEncodeDecodeUptoCard
end Rows
end Go.Proofs.YthhbcnjbnfjiiaaDoor
