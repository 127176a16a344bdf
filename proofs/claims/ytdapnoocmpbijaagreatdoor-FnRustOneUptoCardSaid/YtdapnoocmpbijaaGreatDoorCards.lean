/-
  DERIVED. GIVEN WITH THE SEED: THE CARDS: each row of YtdapnoocmpbijaaGreatDoorRows.lean that lists a variable, with what it lists TIED to the program's text (the seventh form; the later family's looks); each row that meets fmt, with fmt's text TOLD by the authors' own Lean function (tested against real Go, not proved from fmt's source: count such statements apart). THE CARD IS WHAT COUNTS. Prove the row's statement (the work); the ties are given (YtdapnoocmpbijaaGreatDoorTie.lean); close each card by the builder's one call (the guide's Derived/Test/ToyasCard.lean, 'card_holds'). Laid BY PROGRAM, IN A SANDBOX (cutbox-door.mjs). By AI agents, Wed Nov 11 2026. No macro, syntax, notation, axiom, sorry.
-/
import Derived.Test.YtdapnoocmpbijaaGreatDoorRows
import GoSem.ClaimSeven
namespace Go.Proofs.YtdapnoocmpbijaaGreatDoor
namespace Rows

/-- THE TIED CARD OF 'laws.FnRustRef'. -/
def fnRustRefCard : Claim7 := { stood := { row := fnRustRefRow, standIns := [], harness := (true, "c4fc6fc5de074fce474748e31f88cb8858a0d2a6d63c54831be3c39a75377683"), looks := true }, kinds := [], alts := [], laidByText := true, laidKinds := [.data, .data, .data, .data, .sentinel, .mapped, .pinned], laidTests := true, laidLooks := .later }
def FnRustRefCardSaid : Prop := Claim7.holds Tryz.pinned (.plain (OpenSpec.ofChange fnRustRefSpec)) fnRustRefCard

/-- THE TIED CARD OF 'laws.FnRustMut'. -/
def fnRustMutCard : Claim7 := { stood := { row := fnRustMutRow, standIns := [], harness := (true, "c4fc6fc5de074fce474748e31f88cb8858a0d2a6d63c54831be3c39a75377683"), looks := true }, kinds := [], alts := [], laidByText := true, laidKinds := [.data, .data, .data, .data, .sentinel, .mapped, .pinned], laidTests := true, laidLooks := .later }
def FnRustMutCardSaid : Prop := Claim7.holds Tryz.pinned (.plain (OpenSpec.ofChange fnRustMutSpec)) fnRustMutCard

/-- THE TIED CARD OF 'laws.FnRustErased'. -/
def fnRustErasedCard : Claim7 := { stood := { row := fnRustErasedRow, standIns := [], harness := (true, "c4fc6fc5de074fce474748e31f88cb8858a0d2a6d63c54831be3c39a75377683"), looks := true }, kinds := [], alts := [], laidByText := true, laidKinds := [.data, .data, .data, .data, .sentinel, .mapped, .pinned], laidTests := true, laidLooks := .later }
def FnRustErasedCardSaid : Prop := Claim7.holds Tryz.pinned (.plain (OpenSpec.ofChange fnRustErasedSpec)) fnRustErasedCard

/-- THE TIED CARD OF 'laws.FnRustConst'. -/
def fnRustConstCard : Claim7 := { stood := { row := fnRustConstRow, standIns := [], harness := (true, "c4fc6fc5de074fce474748e31f88cb8858a0d2a6d63c54831be3c39a75377683"), looks := true }, kinds := [], alts := [], laidByText := true, laidKinds := [.data, .data, .data, .data, .sentinel, .mapped, .pinned], laidTests := true, laidLooks := .later }
def FnRustConstCardSaid : Prop := Claim7.holds Tryz.pinned (.plain (OpenSpec.ofChange fnRustConstSpec)) fnRustConstCard

/-- THE TIED CARD OF 'laws.FnRustRaw'. -/
def fnRustRawCard : Claim7 := { stood := { row := fnRustRawRow, standIns := [], harness := (true, "c4fc6fc5de074fce474748e31f88cb8858a0d2a6d63c54831be3c39a75377683"), looks := true }, kinds := [], alts := [], laidByText := true, laidKinds := [.data, .data, .data, .data, .sentinel, .mapped, .pinned], laidTests := true, laidLooks := .later }
def FnRustRawCardSaid : Prop := Claim7.holds Tryz.pinned (.plain (OpenSpec.ofChange fnRustRawSpec)) fnRustRawCard

/-- THE TIED CARD OF 'laws.FnRustSlice'. -/
def fnRustSliceCard : Claim7 := { stood := { row := fnRustSliceRow, standIns := [], harness := (true, "c4fc6fc5de074fce474748e31f88cb8858a0d2a6d63c54831be3c39a75377683"), looks := true }, kinds := [], alts := [], laidByText := true, laidKinds := [.data, .data, .data, .data, .sentinel, .mapped, .pinned], laidTests := true, laidLooks := .later }
def FnRustSliceCardSaid : Prop := Claim7.holds Tryz.pinned (.plain (OpenSpec.ofChange fnRustSliceSpec)) fnRustSliceCard

/-- THE TIED CARD OF 'laws.FnRustOne'. -/
def fnRustOneCard : Claim7 := { stood := { row := fnRustOneRow, standIns := [], harness := (true, "c4fc6fc5de074fce474748e31f88cb8858a0d2a6d63c54831be3c39a75377683"), looks := true }, kinds := [], alts := [], laidByText := true, laidKinds := [.data, .data, .data, .data, .sentinel, .mapped, .pinned], laidTests := true, laidLooks := .later }
def FnRustOneCardSaid : Prop := Claim7.holds Tryz.pinned (.plain (OpenSpec.ofChange fnRustOneSpec)) fnRustOneCard

/-- THE TIED CARD OF 'laws.FnRustArray'. -/
def fnRustArrayCard : Claim7 := { stood := { row := fnRustArrayRow, standIns := [], harness := (true, "c4fc6fc5de074fce474748e31f88cb8858a0d2a6d63c54831be3c39a75377683"), looks := true }, kinds := [], alts := [], laidByText := true, laidKinds := [.data, .data, .data, .data, .sentinel, .mapped, .pinned], laidTests := true, laidLooks := .later }
def FnRustArrayCardSaid : Prop := Claim7.holds Tryz.pinned (.plain (OpenSpec.ofChange fnRustArraySpec)) fnRustArrayCard

/-- THE TIED CARD OF 'laws.FnRustAgain'. -/
def fnRustAgainCard : Claim7 := { stood := { row := fnRustAgainRow, standIns := [], harness := (true, "c4fc6fc5de074fce474748e31f88cb8858a0d2a6d63c54831be3c39a75377683"), looks := true }, kinds := [], alts := [], laidByText := true, laidKinds := [.data, .data, .data, .data, .sentinel, .mapped, .pinned], laidTests := true, laidLooks := .later }
def FnRustAgainCardSaid : Prop := Claim7.holds Tryz.pinned (.plain (OpenSpec.ofChange fnRustAgainSpec)) fnRustAgainCard

/-- THE SECOND FORM's CARD OF 'laws.FnRustRef'. -/
def fnRustRefUptoCard : Claim7 := { stood := { row := fnRustRefUptoRow, standIns := [], harness := (true, "c4fc6fc5de074fce474748e31f88cb8858a0d2a6d63c54831be3c39a75377683"), looks := true }, kinds := [], alts := [], laidByText := true, laidKinds := [.data, .data, .data, .data, .sentinel, .mapped, .pinned], laidTests := true, laidLooks := .later }
def FnRustRefUptoCardSaid : Prop := Claim7.holds Tryz.pinned (.plain (OpenSpec.upto fnRustRefSpec)) fnRustRefUptoCard

/-- THE SECOND FORM's CARD OF 'laws.FnRustMut'. -/
def fnRustMutUptoCard : Claim7 := { stood := { row := fnRustMutUptoRow, standIns := [], harness := (true, "c4fc6fc5de074fce474748e31f88cb8858a0d2a6d63c54831be3c39a75377683"), looks := true }, kinds := [], alts := [], laidByText := true, laidKinds := [.data, .data, .data, .data, .sentinel, .mapped, .pinned], laidTests := true, laidLooks := .later }
def FnRustMutUptoCardSaid : Prop := Claim7.holds Tryz.pinned (.plain (OpenSpec.upto fnRustMutSpec)) fnRustMutUptoCard

/-- THE SECOND FORM's CARD OF 'laws.FnRustErased'. -/
def fnRustErasedUptoCard : Claim7 := { stood := { row := fnRustErasedUptoRow, standIns := [], harness := (true, "c4fc6fc5de074fce474748e31f88cb8858a0d2a6d63c54831be3c39a75377683"), looks := true }, kinds := [], alts := [], laidByText := true, laidKinds := [.data, .data, .data, .data, .sentinel, .mapped, .pinned], laidTests := true, laidLooks := .later }
def FnRustErasedUptoCardSaid : Prop := Claim7.holds Tryz.pinned (.plain (OpenSpec.upto fnRustErasedSpec)) fnRustErasedUptoCard

/-- THE SECOND FORM's CARD OF 'laws.FnRustConst'. -/
def fnRustConstUptoCard : Claim7 := { stood := { row := fnRustConstUptoRow, standIns := [], harness := (true, "c4fc6fc5de074fce474748e31f88cb8858a0d2a6d63c54831be3c39a75377683"), looks := true }, kinds := [], alts := [], laidByText := true, laidKinds := [.data, .data, .data, .data, .sentinel, .mapped, .pinned], laidTests := true, laidLooks := .later }
def FnRustConstUptoCardSaid : Prop := Claim7.holds Tryz.pinned (.plain (OpenSpec.upto fnRustConstSpec)) fnRustConstUptoCard

/-- THE SECOND FORM's CARD OF 'laws.FnRustRaw'. -/
def fnRustRawUptoCard : Claim7 := { stood := { row := fnRustRawUptoRow, standIns := [], harness := (true, "c4fc6fc5de074fce474748e31f88cb8858a0d2a6d63c54831be3c39a75377683"), looks := true }, kinds := [], alts := [], laidByText := true, laidKinds := [.data, .data, .data, .data, .sentinel, .mapped, .pinned], laidTests := true, laidLooks := .later }
def FnRustRawUptoCardSaid : Prop := Claim7.holds Tryz.pinned (.plain (OpenSpec.upto fnRustRawSpec)) fnRustRawUptoCard

/-- THE SECOND FORM's CARD OF 'laws.FnRustSlice'. -/
def fnRustSliceUptoCard : Claim7 := { stood := { row := fnRustSliceUptoRow, standIns := [], harness := (true, "c4fc6fc5de074fce474748e31f88cb8858a0d2a6d63c54831be3c39a75377683"), looks := true }, kinds := [], alts := [], laidByText := true, laidKinds := [.data, .data, .data, .data, .sentinel, .mapped, .pinned], laidTests := true, laidLooks := .later }
def FnRustSliceUptoCardSaid : Prop := Claim7.holds Tryz.pinned (.plain (OpenSpec.upto fnRustSliceSpec)) fnRustSliceUptoCard

/-- THE SECOND FORM's CARD OF 'laws.FnRustOne'. -/
def fnRustOneUptoCard : Claim7 := { stood := { row := fnRustOneUptoRow, standIns := [], harness := (true, "c4fc6fc5de074fce474748e31f88cb8858a0d2a6d63c54831be3c39a75377683"), looks := true }, kinds := [], alts := [], laidByText := true, laidKinds := [.data, .data, .data, .data, .sentinel, .mapped, .pinned], laidTests := true, laidLooks := .later }
def FnRustOneUptoCardSaid : Prop := Claim7.holds Tryz.pinned (.plain (OpenSpec.upto fnRustOneSpec)) fnRustOneUptoCard

/-- THE SECOND FORM's CARD OF 'laws.FnRustArray'. -/
def fnRustArrayUptoCard : Claim7 := { stood := { row := fnRustArrayUptoRow, standIns := [], harness := (true, "c4fc6fc5de074fce474748e31f88cb8858a0d2a6d63c54831be3c39a75377683"), looks := true }, kinds := [], alts := [], laidByText := true, laidKinds := [.data, .data, .data, .data, .sentinel, .mapped, .pinned], laidTests := true, laidLooks := .later }
def FnRustArrayUptoCardSaid : Prop := Claim7.holds Tryz.pinned (.plain (OpenSpec.upto fnRustArraySpec)) fnRustArrayUptoCard

/-- THE SECOND FORM's CARD OF 'laws.FnRustAgain'. -/
def fnRustAgainUptoCard : Claim7 := { stood := { row := fnRustAgainUptoRow, standIns := [], harness := (true, "c4fc6fc5de074fce474748e31f88cb8858a0d2a6d63c54831be3c39a75377683"), looks := true }, kinds := [], alts := [], laidByText := true, laidKinds := [.data, .data, .data, .data, .sentinel, .mapped, .pinned], laidTests := true, laidLooks := .later }
def FnRustAgainUptoCardSaid : Prop := Claim7.holds Tryz.pinned (.plain (OpenSpec.upto fnRustAgainSpec)) fnRustAgainUptoCard
end Rows
end Go.Proofs.YtdapnoocmpbijaaGreatDoor
