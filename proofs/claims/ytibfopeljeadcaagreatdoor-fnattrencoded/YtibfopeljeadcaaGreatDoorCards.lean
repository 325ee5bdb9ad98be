/-
  DERIVED. GIVEN WITH THE SEED: THE CARDS: each row of YtibfopeljeadcaaGreatDoorRows.lean that lists a variable, with what it lists TIED to the program's text (the seventh form; the later family's looks); each row that meets fmt, with fmt's text TOLD by the authors' own Lean function (tested against real Go, not proved from fmt's source: count such statements apart). THE CARD IS WHAT COUNTS. Prove the row's statement (the work); the ties are given (YtibfopeljeadcaaGreatDoorTie.lean); close each card by the builder's one call (the guide's Derived/Test/ToyasCard.lean, 'card_holds'). Laid BY PROGRAM, IN A SANDBOX (cutbox-door.mjs). By AI agents, Wed Nov 11 2026. No macro, syntax, notation, axiom, sorry.
-/
import Derived.Test.YtibfopeljeadcaaGreatDoorRows
import GoSem.ClaimSeven
namespace Go.Proofs.YtibfopeljeadcaaGreatDoor
namespace Rows

/-- THE TIED CARD OF 'laws.FnAttrMerge'. -/
def fnAttrMergeCard : Claim7 := { stood := { row := fnAttrMergeRow, standIns := [], harness := (true, "77c221837e938abe406a0bc4d9a29a4822ab391347a99c1a89078a01cd52f968"), looks := true }, kinds := [], alts := [], laidByText := true, laidKinds := [.data, .data, .data, .data, .data, .pinned, .pinned, .pinned], laidTests := true, laidLooks := .later }
def FnAttrMergeCardSaid : Prop := Claim7.holds Tryz.pinned (.plain (OpenSpec.ofChange fnAttrMergeSpec)) fnAttrMergeCard

/-- THE TIED CARD OF 'laws.FnAttrAgain'. -/
def fnAttrAgainCard : Claim7 := { stood := { row := fnAttrAgainRow, standIns := [], harness := (true, "77c221837e938abe406a0bc4d9a29a4822ab391347a99c1a89078a01cd52f968"), looks := true }, kinds := [], alts := [], laidByText := true, laidKinds := [.data, .data, .data, .data, .data, .pinned, .pinned, .pinned], laidTests := true, laidLooks := .later }
def FnAttrAgainCardSaid : Prop := Claim7.holds Tryz.pinned (.plain (OpenSpec.ofChange fnAttrAgainSpec)) fnAttrAgainCard

/-- THE TIED CARD OF 'laws.FnAttrFilter'. -/
def fnAttrFilterCard : Claim7 := { stood := { row := fnAttrFilterRow, standIns := [], harness := (true, "77c221837e938abe406a0bc4d9a29a4822ab391347a99c1a89078a01cd52f968"), looks := true }, kinds := [], alts := [], laidByText := true, laidKinds := [.data, .data, .data, .data, .data, .pinned, .pinned, .pinned], laidTests := true, laidLooks := .later }
def FnAttrFilterCardSaid : Prop := Claim7.holds Tryz.pinned (.plain (OpenSpec.ofChange fnAttrFilterSpec)) fnAttrFilterCard

/-- THE TIED CARD OF 'laws.FnAttrAlike'. -/
def fnAttrAlikeCard : Claim7 := { stood := { row := fnAttrAlikeRow, standIns := [], harness := (true, "77c221837e938abe406a0bc4d9a29a4822ab391347a99c1a89078a01cd52f968"), looks := true }, kinds := [], alts := [], laidByText := true, laidKinds := [.data, .data, .data, .data, .data, .pinned, .pinned, .pinned], laidTests := true, laidLooks := .later }
def FnAttrAlikeCardSaid : Prop := Claim7.holds Tryz.pinned (.plain (OpenSpec.ofChange fnAttrAlikeSpec)) fnAttrAlikeCard

/-- THE TIED CARD OF 'laws.FnAttrEncoded'. -/
def fnAttrEncodedCard : Claim7 := { stood := { row := fnAttrEncodedRow, standIns := [], harness := (true, "77c221837e938abe406a0bc4d9a29a4822ab391347a99c1a89078a01cd52f968"), looks := true }, kinds := [], alts := [], laidByText := true, laidKinds := [.data, .data, .data, .data, .data, .pinned, .pinned, .pinned], laidTests := true, laidLooks := .later }
def FnAttrEncodedCardSaid : Prop := Claim7.holds Tryz.pinned (.plain (OpenSpec.ofChange fnAttrEncodedSpec)) fnAttrEncodedCard

/-- THE TIED CARD OF 'laws.FnAttrOrder'. -/
def fnAttrOrderCard : Claim7 := { stood := { row := fnAttrOrderRow, standIns := [], harness := (true, "77c221837e938abe406a0bc4d9a29a4822ab391347a99c1a89078a01cd52f968"), looks := true }, kinds := [], alts := [], laidByText := true, laidKinds := [.data, .data, .data, .data, .data, .pinned, .pinned, .pinned], laidTests := true, laidLooks := .later }
def FnAttrOrderCardSaid : Prop := Claim7.holds Tryz.pinned (.plain (OpenSpec.ofChange fnAttrOrderSpec)) fnAttrOrderCard

/-- THE TIED CARD OF 'laws.FnAttrPair'. -/
def fnAttrPairCard : Claim7 := { stood := { row := fnAttrPairRow, standIns := [], harness := (true, "77c221837e938abe406a0bc4d9a29a4822ab391347a99c1a89078a01cd52f968"), looks := true }, kinds := [], alts := [], laidByText := true, laidKinds := [.data, .data, .data, .data, .data, .pinned, .pinned, .pinned], laidTests := true, laidLooks := .later }
def FnAttrPairCardSaid : Prop := Claim7.holds Tryz.pinned (.plain (OpenSpec.ofChange fnAttrPairSpec)) fnAttrPairCard

/-- THE TIED CARD OF 'laws.FnAttrText'. -/
def fnAttrTextCard : Claim7 := { stood := { row := fnAttrTextRow, standIns := [], harness := (true, "77c221837e938abe406a0bc4d9a29a4822ab391347a99c1a89078a01cd52f968"), looks := true }, kinds := [], alts := [], laidByText := true, laidKinds := [.data, .data, .data, .data, .data, .pinned, .pinned, .pinned], laidTests := true, laidLooks := .later }
def FnAttrTextCardSaid : Prop := Claim7.holds Tryz.pinned (.plain (OpenSpec.ofChange fnAttrTextSpec)) fnAttrTextCard

/-- THE TIED CARD OF 'laws.FnAttrBack'. -/
def fnAttrBackCard : Claim7 := { stood := { row := fnAttrBackRow, standIns := [], harness := (true, "77c221837e938abe406a0bc4d9a29a4822ab391347a99c1a89078a01cd52f968"), looks := true }, kinds := [], alts := [], laidByText := true, laidKinds := [.data, .data, .data, .data, .data, .pinned, .pinned, .pinned], laidTests := true, laidLooks := .later }
def FnAttrBackCardSaid : Prop := Claim7.holds Tryz.pinned (.plain (OpenSpec.ofChange fnAttrBackSpec)) fnAttrBackCard

/-- THE TIED CARD OF 'laws.FnAttrSet'. -/
def fnAttrSetCard : Claim7 := { stood := { row := fnAttrSetRow, standIns := [], harness := (true, "77c221837e938abe406a0bc4d9a29a4822ab391347a99c1a89078a01cd52f968"), looks := true }, kinds := [], alts := [], laidByText := true, laidKinds := [.data, .data, .data, .data, .data, .pinned, .pinned, .pinned], laidTests := true, laidLooks := .later }
def FnAttrSetCardSaid : Prop := Claim7.holds Tryz.pinned (.plain (OpenSpec.ofChange fnAttrSetSpec)) fnAttrSetCard

/-- THE TIED CARD OF 'laws.FnAttrAsk'. -/
def fnAttrAskCard : Claim7 := { stood := { row := fnAttrAskRow, standIns := [], harness := (true, "77c221837e938abe406a0bc4d9a29a4822ab391347a99c1a89078a01cd52f968"), looks := true }, kinds := [], alts := [], laidByText := true, laidKinds := [.data, .data, .data, .data, .data, .pinned, .pinned, .pinned], laidTests := true, laidLooks := .later }
def FnAttrAskCardSaid : Prop := Claim7.holds Tryz.pinned (.plain (OpenSpec.ofChange fnAttrAskSpec)) fnAttrAskCard

/-- THE SECOND FORM's CARD OF 'laws.FnAttrMerge'. -/
def fnAttrMergeUptoCard : Claim7 := { stood := { row := fnAttrMergeUptoRow, standIns := [], harness := (true, "77c221837e938abe406a0bc4d9a29a4822ab391347a99c1a89078a01cd52f968"), looks := true }, kinds := [], alts := [], laidByText := true, laidKinds := [.data, .data, .data, .data, .data, .pinned, .pinned, .pinned], laidTests := true, laidLooks := .later }
def FnAttrMergeUptoCardSaid : Prop := Claim7.holds Tryz.pinned (.plain (OpenSpec.upto fnAttrMergeSpec)) fnAttrMergeUptoCard

/-- THE SECOND FORM's CARD OF 'laws.FnAttrAgain'. -/
def fnAttrAgainUptoCard : Claim7 := { stood := { row := fnAttrAgainUptoRow, standIns := [], harness := (true, "77c221837e938abe406a0bc4d9a29a4822ab391347a99c1a89078a01cd52f968"), looks := true }, kinds := [], alts := [], laidByText := true, laidKinds := [.data, .data, .data, .data, .data, .pinned, .pinned, .pinned], laidTests := true, laidLooks := .later }
def FnAttrAgainUptoCardSaid : Prop := Claim7.holds Tryz.pinned (.plain (OpenSpec.upto fnAttrAgainSpec)) fnAttrAgainUptoCard

/-- THE SECOND FORM's CARD OF 'laws.FnAttrFilter'. -/
def fnAttrFilterUptoCard : Claim7 := { stood := { row := fnAttrFilterUptoRow, standIns := [], harness := (true, "77c221837e938abe406a0bc4d9a29a4822ab391347a99c1a89078a01cd52f968"), looks := true }, kinds := [], alts := [], laidByText := true, laidKinds := [.data, .data, .data, .data, .data, .pinned, .pinned, .pinned], laidTests := true, laidLooks := .later }
def FnAttrFilterUptoCardSaid : Prop := Claim7.holds Tryz.pinned (.plain (OpenSpec.upto fnAttrFilterSpec)) fnAttrFilterUptoCard

/-- THE SECOND FORM's CARD OF 'laws.FnAttrAlike'. -/
def fnAttrAlikeUptoCard : Claim7 := { stood := { row := fnAttrAlikeUptoRow, standIns := [], harness := (true, "77c221837e938abe406a0bc4d9a29a4822ab391347a99c1a89078a01cd52f968"), looks := true }, kinds := [], alts := [], laidByText := true, laidKinds := [.data, .data, .data, .data, .data, .pinned, .pinned, .pinned], laidTests := true, laidLooks := .later }
def FnAttrAlikeUptoCardSaid : Prop := Claim7.holds Tryz.pinned (.plain (OpenSpec.upto fnAttrAlikeSpec)) fnAttrAlikeUptoCard

/-- THE SECOND FORM's CARD OF 'laws.FnAttrEncoded'. -/
def fnAttrEncodedUptoCard : Claim7 := { stood := { row := fnAttrEncodedUptoRow, standIns := [], harness := (true, "77c221837e938abe406a0bc4d9a29a4822ab391347a99c1a89078a01cd52f968"), looks := true }, kinds := [], alts := [], laidByText := true, laidKinds := [.data, .data, .data, .data, .data, .pinned, .pinned, .pinned], laidTests := true, laidLooks := .later }
def FnAttrEncodedUptoCardSaid : Prop := Claim7.holds Tryz.pinned (.plain (OpenSpec.upto fnAttrEncodedSpec)) fnAttrEncodedUptoCard

/-- THE SECOND FORM's CARD OF 'laws.FnAttrOrder'. -/
def fnAttrOrderUptoCard : Claim7 := { stood := { row := fnAttrOrderUptoRow, standIns := [], harness := (true, "77c221837e938abe406a0bc4d9a29a4822ab391347a99c1a89078a01cd52f968"), looks := true }, kinds := [], alts := [], laidByText := true, laidKinds := [.data, .data, .data, .data, .data, .pinned, .pinned, .pinned], laidTests := true, laidLooks := .later }
def FnAttrOrderUptoCardSaid : Prop := Claim7.holds Tryz.pinned (.plain (OpenSpec.upto fnAttrOrderSpec)) fnAttrOrderUptoCard

/-- THE SECOND FORM's CARD OF 'laws.FnAttrPair'. -/
def fnAttrPairUptoCard : Claim7 := { stood := { row := fnAttrPairUptoRow, standIns := [], harness := (true, "77c221837e938abe406a0bc4d9a29a4822ab391347a99c1a89078a01cd52f968"), looks := true }, kinds := [], alts := [], laidByText := true, laidKinds := [.data, .data, .data, .data, .data, .pinned, .pinned, .pinned], laidTests := true, laidLooks := .later }
def FnAttrPairUptoCardSaid : Prop := Claim7.holds Tryz.pinned (.plain (OpenSpec.upto fnAttrPairSpec)) fnAttrPairUptoCard

/-- THE SECOND FORM's CARD OF 'laws.FnAttrText'. -/
def fnAttrTextUptoCard : Claim7 := { stood := { row := fnAttrTextUptoRow, standIns := [], harness := (true, "77c221837e938abe406a0bc4d9a29a4822ab391347a99c1a89078a01cd52f968"), looks := true }, kinds := [], alts := [], laidByText := true, laidKinds := [.data, .data, .data, .data, .data, .pinned, .pinned, .pinned], laidTests := true, laidLooks := .later }
def FnAttrTextUptoCardSaid : Prop := Claim7.holds Tryz.pinned (.plain (OpenSpec.upto fnAttrTextSpec)) fnAttrTextUptoCard

/-- THE SECOND FORM's CARD OF 'laws.FnAttrBack'. -/
def fnAttrBackUptoCard : Claim7 := { stood := { row := fnAttrBackUptoRow, standIns := [], harness := (true, "77c221837e938abe406a0bc4d9a29a4822ab391347a99c1a89078a01cd52f968"), looks := true }, kinds := [], alts := [], laidByText := true, laidKinds := [.data, .data, .data, .data, .data, .pinned, .pinned, .pinned], laidTests := true, laidLooks := .later }
def FnAttrBackUptoCardSaid : Prop := Claim7.holds Tryz.pinned (.plain (OpenSpec.upto fnAttrBackSpec)) fnAttrBackUptoCard

/-- THE SECOND FORM's CARD OF 'laws.FnAttrSet'. -/
def fnAttrSetUptoCard : Claim7 := { stood := { row := fnAttrSetUptoRow, standIns := [], harness := (true, "77c221837e938abe406a0bc4d9a29a4822ab391347a99c1a89078a01cd52f968"), looks := true }, kinds := [], alts := [], laidByText := true, laidKinds := [.data, .data, .data, .data, .data, .pinned, .pinned, .pinned], laidTests := true, laidLooks := .later }
def FnAttrSetUptoCardSaid : Prop := Claim7.holds Tryz.pinned (.plain (OpenSpec.upto fnAttrSetSpec)) fnAttrSetUptoCard

/-- THE SECOND FORM's CARD OF 'laws.FnAttrAsk'. -/
def fnAttrAskUptoCard : Claim7 := { stood := { row := fnAttrAskUptoRow, standIns := [], harness := (true, "77c221837e938abe406a0bc4d9a29a4822ab391347a99c1a89078a01cd52f968"), looks := true }, kinds := [], alts := [], laidByText := true, laidKinds := [.data, .data, .data, .data, .data, .pinned, .pinned, .pinned], laidTests := true, laidLooks := .later }
def FnAttrAskUptoCardSaid : Prop := Claim7.holds Tryz.pinned (.plain (OpenSpec.upto fnAttrAskSpec)) fnAttrAskUptoCard
end Rows
end Go.Proofs.YtibfopeljeadcaaGreatDoor
