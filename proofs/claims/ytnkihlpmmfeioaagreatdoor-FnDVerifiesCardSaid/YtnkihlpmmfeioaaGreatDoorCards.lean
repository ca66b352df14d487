/-
  DERIVED. GIVEN WITH THE SEED: THE CARDS: each row of YtnkihlpmmfeioaaGreatDoorRows.lean that lists a variable, with what it lists TIED to the program's text (the seventh form; the later family's looks); each row that meets fmt, with fmt's text TOLD by the authors' own Lean function (tested against real Go, not proved from fmt's source: count such statements apart). THE CARD IS WHAT COUNTS. Prove the row's statement (the work); the ties are given (YtnkihlpmmfeioaaGreatDoorTie.lean); close each card by the builder's one call (the guide's Derived/Test/ToyasCard.lean, 'card_holds'). Laid BY PROGRAM, IN A SANDBOX (cutbox-door.mjs). By AI agents, Wed Nov 11 2026. No macro, syntax, notation, axiom, sorry.
-/
import Derived.Test.YtnkihlpmmfeioaaGreatDoorRows
import GoSem.ClaimSeven
namespace Go.Proofs.YtnkihlpmmfeioaaGreatDoor
namespace Rows

/-- THE TIED CARD OF 'laws.FnDVerifies'. -/
def fnDVerifiesCard : Claim7 := { stood := { row := fnDVerifiesRow, standIns := [], harness := (true, "4d18348b6e9595a2e7a9892f5525d0de4ec2c490a410f52b76276ea4a536faa2"), looks := true }, kinds := [], alts := [], laidByText := true, laidKinds := [.data, .data, .data, .data, .sentinel, .sentinel, .sentinel, .sentinel, .sentinel, .sentinel, .sentinel, .sentinel, .sentinel, .data], laidTests := true, laidLooks := .later }
def FnDVerifiesCardSaid : Prop := Claim7.holds Tryz.pinned (.plain (OpenSpec.ofChange fnDVerifiesSpec)) fnDVerifiesCard

/-- THE TIED CARD OF 'laws.FnDLookups'. -/
def fnDLookupsCard : Claim7 := { stood := { row := fnDLookupsRow, standIns := [], harness := (true, "4d18348b6e9595a2e7a9892f5525d0de4ec2c490a410f52b76276ea4a536faa2"), looks := true }, kinds := [], alts := [], laidByText := true, laidKinds := [.data, .data, .data, .data, .sentinel, .sentinel, .sentinel, .sentinel, .sentinel, .sentinel, .sentinel, .sentinel, .sentinel, .data], laidTests := true, laidLooks := .later }
def FnDLookupsCardSaid : Prop := Claim7.holds Tryz.pinned (.plain (OpenSpec.ofChange fnDLookupsSpec)) fnDLookupsCard

/-- THE TIED CARD OF 'laws.FnDMany'. -/
def fnDManyCard : Claim7 := { stood := { row := fnDManyRow, standIns := [], harness := (true, "4d18348b6e9595a2e7a9892f5525d0de4ec2c490a410f52b76276ea4a536faa2"), looks := true }, kinds := [], alts := [], laidByText := true, laidKinds := [.data, .data, .data, .data, .sentinel, .sentinel, .sentinel, .sentinel, .sentinel, .sentinel, .sentinel, .sentinel, .sentinel, .data], laidTests := true, laidLooks := .later }
def FnDManyCardSaid : Prop := Claim7.holds Tryz.pinned (.plain (OpenSpec.ofChange fnDManySpec)) fnDManyCard

/-- THE TIED CARD OF 'laws.FnDRecordSays'. -/
def fnDRecordSaysCard : Claim7 := { stood := { row := fnDRecordSaysRow, standIns := [], harness := (true, "4d18348b6e9595a2e7a9892f5525d0de4ec2c490a410f52b76276ea4a536faa2"), looks := true }, kinds := [], alts := [], laidByText := true, laidKinds := [.data, .data, .data, .data, .sentinel, .sentinel, .sentinel, .sentinel, .sentinel, .sentinel, .sentinel, .sentinel, .sentinel, .data], laidTests := true, laidLooks := .later }
def FnDRecordSaysCardSaid : Prop := Claim7.holds Tryz.pinned (.plain (OpenSpec.ofChange fnDRecordSaysSpec)) fnDRecordSaysCard

/-- THE TIED CARD OF 'laws.FnDSound'. -/
def fnDSoundCard : Claim7 := { stood := { row := fnDSoundRow, standIns := [], harness := (true, "4d18348b6e9595a2e7a9892f5525d0de4ec2c490a410f52b76276ea4a536faa2"), looks := true }, kinds := [], alts := [], laidByText := true, laidKinds := [.data, .data, .data, .data, .sentinel, .sentinel, .sentinel, .sentinel, .sentinel, .sentinel, .sentinel, .sentinel, .sentinel, .data], laidTests := true, laidLooks := .later }
def FnDSoundCardSaid : Prop := Claim7.holds Tryz.pinned (.plain (OpenSpec.ofChange fnDSoundSpec)) fnDSoundCard

/-- THE TIED CARD OF 'laws.FnDSwapped'. -/
def fnDSwappedCard : Claim7 := { stood := { row := fnDSwappedRow, standIns := [], harness := (true, "4d18348b6e9595a2e7a9892f5525d0de4ec2c490a410f52b76276ea4a536faa2"), looks := true }, kinds := [], alts := [], laidByText := true, laidKinds := [.data, .data, .data, .data, .sentinel, .sentinel, .sentinel, .sentinel, .sentinel, .sentinel, .sentinel, .sentinel, .sentinel, .data], laidTests := true, laidLooks := .later }
def FnDSwappedCardSaid : Prop := Claim7.holds Tryz.pinned (.plain (OpenSpec.ofChange fnDSwappedSpec)) fnDSwappedCard

/-- THE TIED CARD OF 'laws.FnDTwoDomains'. -/
def fnDTwoDomainsCard : Claim7 := { stood := { row := fnDTwoDomainsRow, standIns := [], harness := (true, "4d18348b6e9595a2e7a9892f5525d0de4ec2c490a410f52b76276ea4a536faa2"), looks := true }, kinds := [], alts := [], laidByText := true, laidKinds := [.data, .data, .data, .data, .sentinel, .sentinel, .sentinel, .sentinel, .sentinel, .sentinel, .sentinel, .sentinel, .sentinel, .data], laidTests := true, laidLooks := .later }
def FnDTwoDomainsCardSaid : Prop := Claim7.holds Tryz.pinned (.plain (OpenSpec.ofChange fnDTwoDomainsSpec)) fnDTwoDomainsCard

/-- THE SECOND FORM's CARD OF 'laws.FnDVerifies'. -/
def fnDVerifiesUptoCard : Claim7 := { stood := { row := fnDVerifiesUptoRow, standIns := [], harness := (true, "4d18348b6e9595a2e7a9892f5525d0de4ec2c490a410f52b76276ea4a536faa2"), looks := true }, kinds := [], alts := [], laidByText := true, laidKinds := [.data, .data, .data, .data, .sentinel, .sentinel, .sentinel, .sentinel, .sentinel, .sentinel, .sentinel, .sentinel, .sentinel, .data], laidTests := true, laidLooks := .later }
def FnDVerifiesUptoCardSaid : Prop := Claim7.holds Tryz.pinned (.plain (OpenSpec.upto fnDVerifiesSpec)) fnDVerifiesUptoCard

/-- THE SECOND FORM's CARD OF 'laws.FnDLookups'. -/
def fnDLookupsUptoCard : Claim7 := { stood := { row := fnDLookupsUptoRow, standIns := [], harness := (true, "4d18348b6e9595a2e7a9892f5525d0de4ec2c490a410f52b76276ea4a536faa2"), looks := true }, kinds := [], alts := [], laidByText := true, laidKinds := [.data, .data, .data, .data, .sentinel, .sentinel, .sentinel, .sentinel, .sentinel, .sentinel, .sentinel, .sentinel, .sentinel, .data], laidTests := true, laidLooks := .later }
def FnDLookupsUptoCardSaid : Prop := Claim7.holds Tryz.pinned (.plain (OpenSpec.upto fnDLookupsSpec)) fnDLookupsUptoCard

/-- THE SECOND FORM's CARD OF 'laws.FnDMany'. -/
def fnDManyUptoCard : Claim7 := { stood := { row := fnDManyUptoRow, standIns := [], harness := (true, "4d18348b6e9595a2e7a9892f5525d0de4ec2c490a410f52b76276ea4a536faa2"), looks := true }, kinds := [], alts := [], laidByText := true, laidKinds := [.data, .data, .data, .data, .sentinel, .sentinel, .sentinel, .sentinel, .sentinel, .sentinel, .sentinel, .sentinel, .sentinel, .data], laidTests := true, laidLooks := .later }
def FnDManyUptoCardSaid : Prop := Claim7.holds Tryz.pinned (.plain (OpenSpec.upto fnDManySpec)) fnDManyUptoCard

/-- THE SECOND FORM's CARD OF 'laws.FnDRecordSays'. -/
def fnDRecordSaysUptoCard : Claim7 := { stood := { row := fnDRecordSaysUptoRow, standIns := [], harness := (true, "4d18348b6e9595a2e7a9892f5525d0de4ec2c490a410f52b76276ea4a536faa2"), looks := true }, kinds := [], alts := [], laidByText := true, laidKinds := [.data, .data, .data, .data, .sentinel, .sentinel, .sentinel, .sentinel, .sentinel, .sentinel, .sentinel, .sentinel, .sentinel, .data], laidTests := true, laidLooks := .later }
def FnDRecordSaysUptoCardSaid : Prop := Claim7.holds Tryz.pinned (.plain (OpenSpec.upto fnDRecordSaysSpec)) fnDRecordSaysUptoCard

/-- THE SECOND FORM's CARD OF 'laws.FnDSound'. -/
def fnDSoundUptoCard : Claim7 := { stood := { row := fnDSoundUptoRow, standIns := [], harness := (true, "4d18348b6e9595a2e7a9892f5525d0de4ec2c490a410f52b76276ea4a536faa2"), looks := true }, kinds := [], alts := [], laidByText := true, laidKinds := [.data, .data, .data, .data, .sentinel, .sentinel, .sentinel, .sentinel, .sentinel, .sentinel, .sentinel, .sentinel, .sentinel, .data], laidTests := true, laidLooks := .later }
def FnDSoundUptoCardSaid : Prop := Claim7.holds Tryz.pinned (.plain (OpenSpec.upto fnDSoundSpec)) fnDSoundUptoCard

/-- THE SECOND FORM's CARD OF 'laws.FnDSwapped'. -/
def fnDSwappedUptoCard : Claim7 := { stood := { row := fnDSwappedUptoRow, standIns := [], harness := (true, "4d18348b6e9595a2e7a9892f5525d0de4ec2c490a410f52b76276ea4a536faa2"), looks := true }, kinds := [], alts := [], laidByText := true, laidKinds := [.data, .data, .data, .data, .sentinel, .sentinel, .sentinel, .sentinel, .sentinel, .sentinel, .sentinel, .sentinel, .sentinel, .data], laidTests := true, laidLooks := .later }
def FnDSwappedUptoCardSaid : Prop := Claim7.holds Tryz.pinned (.plain (OpenSpec.upto fnDSwappedSpec)) fnDSwappedUptoCard

/-- THE SECOND FORM's CARD OF 'laws.FnDTwoDomains'. -/
def fnDTwoDomainsUptoCard : Claim7 := { stood := { row := fnDTwoDomainsUptoRow, standIns := [], harness := (true, "4d18348b6e9595a2e7a9892f5525d0de4ec2c490a410f52b76276ea4a536faa2"), looks := true }, kinds := [], alts := [], laidByText := true, laidKinds := [.data, .data, .data, .data, .sentinel, .sentinel, .sentinel, .sentinel, .sentinel, .sentinel, .sentinel, .sentinel, .sentinel, .data], laidTests := true, laidLooks := .later }
def FnDTwoDomainsUptoCardSaid : Prop := Claim7.holds Tryz.pinned (.plain (OpenSpec.upto fnDTwoDomainsSpec)) fnDTwoDomainsUptoCard
end Rows
end Go.Proofs.YtnkihlpmmfeioaaGreatDoor
