/-
  DERIVED. GIVEN WITH THE SEED: THE CARDS: each row of YtidokamjbglkbaaGreatDoorRows.lean that lists a variable, with what it lists TIED to the program's text (the seventh form; the later family's looks); each row that meets fmt, with fmt's text TOLD by the authors' own Lean function (tested against real Go, not proved from fmt's source: count such statements apart). THE CARD IS WHAT COUNTS. Prove the row's statement (the work); the ties are given (YtidokamjbglkbaaGreatDoorTie.lean); close each card by the builder's one call (the guide's Derived/Test/ToyasCard.lean, 'card_holds'). Laid BY PROGRAM, IN A SANDBOX (cutbox-door.mjs). By AI agents, Wed Nov 11 2026. No macro, syntax, notation, axiom, sorry.
-/
import Derived.Test.YtidokamjbglkbaaGreatDoorRows
import GoSem.ClaimSeven
namespace Go.Proofs.YtidokamjbglkbaaGreatDoor
namespace Rows

/-- THE TIED CARD OF 'laws.FnRustAgain'. -/
def fnRustAgainCard : Claim7 := { stood := { row := fnRustAgainRow, standIns := [], harness := (true, "0155918ff2b352a16d1a2e4dfaaf456127358768504d25a78cd90c49792ff35a"), looks := true }, kinds := [], alts := [], laidByText := true, laidKinds := [.data, .data, .data, .data, .sentinel, .mapped, .pinned], laidTests := true, laidLooks := .later }
def FnRustAgainCardSaid : Prop := Claim7.holds Tryz.pinned (.plain (OpenSpec.ofChange fnRustAgainSpec)) fnRustAgainCard

/-- THE TIED CARD OF 'laws.FnRustObject'. -/
def fnRustObjectCard : Claim7 := { stood := { row := fnRustObjectRow, standIns := [], harness := (true, "0155918ff2b352a16d1a2e4dfaaf456127358768504d25a78cd90c49792ff35a"), looks := true }, kinds := [], alts := [], laidByText := true, laidKinds := [.data, .data, .data, .data, .sentinel, .mapped, .pinned], laidTests := true, laidLooks := .later }
def FnRustObjectCardSaid : Prop := Claim7.holds Tryz.pinned (.plain (OpenSpec.ofChange fnRustObjectSpec)) fnRustObjectCard

/-- THE TIED CARD OF 'laws.FnRustAs'. -/
def fnRustAsCard : Claim7 := { stood := { row := fnRustAsRow, standIns := [], harness := (true, "0155918ff2b352a16d1a2e4dfaaf456127358768504d25a78cd90c49792ff35a"), looks := true }, kinds := [], alts := [], laidByText := true, laidKinds := [.data, .data, .data, .data, .sentinel, .mapped, .pinned], laidTests := true, laidLooks := .later }
def FnRustAsCardSaid : Prop := Claim7.holds Tryz.pinned (.plain (OpenSpec.ofChange fnRustAsSpec)) fnRustAsCard

/-- THE TIED CARD OF 'laws.FnRustSelf'. -/
def fnRustSelfCard : Claim7 := { stood := { row := fnRustSelfRow, standIns := [], harness := (true, "0155918ff2b352a16d1a2e4dfaaf456127358768504d25a78cd90c49792ff35a"), looks := true }, kinds := [], alts := [], laidByText := true, laidKinds := [.data, .data, .data, .data, .sentinel, .mapped, .pinned], laidTests := true, laidLooks := .later }
def FnRustSelfCardSaid : Prop := Claim7.holds Tryz.pinned (.plain (OpenSpec.ofChange fnRustSelfSpec)) fnRustSelfCard

/-- THE TIED CARD OF 'laws.FnRustBinding'. -/
def fnRustBindingCard : Claim7 := { stood := { row := fnRustBindingRow, standIns := [], harness := (true, "0155918ff2b352a16d1a2e4dfaaf456127358768504d25a78cd90c49792ff35a"), looks := true }, kinds := [], alts := [], laidByText := true, laidKinds := [.data, .data, .data, .data, .sentinel, .mapped, .pinned], laidTests := true, laidLooks := .later }
def FnRustBindingCardSaid : Prop := Claim7.holds Tryz.pinned (.plain (OpenSpec.ofChange fnRustBindingSpec)) fnRustBindingCard

/-- THE TIED CARD OF 'laws.FnRustLifetimes'. -/
def fnRustLifetimesCard : Claim7 := { stood := { row := fnRustLifetimesRow, standIns := [], harness := (true, "0155918ff2b352a16d1a2e4dfaaf456127358768504d25a78cd90c49792ff35a"), looks := true }, kinds := [], alts := [], laidByText := true, laidKinds := [.data, .data, .data, .data, .sentinel, .mapped, .pinned], laidTests := true, laidLooks := .later }
def FnRustLifetimesCardSaid : Prop := Claim7.holds Tryz.pinned (.plain (OpenSpec.ofChange fnRustLifetimesSpec)) fnRustLifetimesCard

/-- THE SECOND FORM's CARD OF 'laws.FnRustAgain'. -/
def fnRustAgainUptoCard : Claim7 := { stood := { row := fnRustAgainUptoRow, standIns := [], harness := (true, "0155918ff2b352a16d1a2e4dfaaf456127358768504d25a78cd90c49792ff35a"), looks := true }, kinds := [], alts := [], laidByText := true, laidKinds := [.data, .data, .data, .data, .sentinel, .mapped, .pinned], laidTests := true, laidLooks := .later }
def FnRustAgainUptoCardSaid : Prop := Claim7.holds Tryz.pinned (.plain (OpenSpec.upto fnRustAgainSpec)) fnRustAgainUptoCard

/-- THE SECOND FORM's CARD OF 'laws.FnRustObject'. -/
def fnRustObjectUptoCard : Claim7 := { stood := { row := fnRustObjectUptoRow, standIns := [], harness := (true, "0155918ff2b352a16d1a2e4dfaaf456127358768504d25a78cd90c49792ff35a"), looks := true }, kinds := [], alts := [], laidByText := true, laidKinds := [.data, .data, .data, .data, .sentinel, .mapped, .pinned], laidTests := true, laidLooks := .later }
def FnRustObjectUptoCardSaid : Prop := Claim7.holds Tryz.pinned (.plain (OpenSpec.upto fnRustObjectSpec)) fnRustObjectUptoCard

/-- THE SECOND FORM's CARD OF 'laws.FnRustAs'. -/
def fnRustAsUptoCard : Claim7 := { stood := { row := fnRustAsUptoRow, standIns := [], harness := (true, "0155918ff2b352a16d1a2e4dfaaf456127358768504d25a78cd90c49792ff35a"), looks := true }, kinds := [], alts := [], laidByText := true, laidKinds := [.data, .data, .data, .data, .sentinel, .mapped, .pinned], laidTests := true, laidLooks := .later }
def FnRustAsUptoCardSaid : Prop := Claim7.holds Tryz.pinned (.plain (OpenSpec.upto fnRustAsSpec)) fnRustAsUptoCard

/-- THE SECOND FORM's CARD OF 'laws.FnRustSelf'. -/
def fnRustSelfUptoCard : Claim7 := { stood := { row := fnRustSelfUptoRow, standIns := [], harness := (true, "0155918ff2b352a16d1a2e4dfaaf456127358768504d25a78cd90c49792ff35a"), looks := true }, kinds := [], alts := [], laidByText := true, laidKinds := [.data, .data, .data, .data, .sentinel, .mapped, .pinned], laidTests := true, laidLooks := .later }
def FnRustSelfUptoCardSaid : Prop := Claim7.holds Tryz.pinned (.plain (OpenSpec.upto fnRustSelfSpec)) fnRustSelfUptoCard

/-- THE SECOND FORM's CARD OF 'laws.FnRustBinding'. -/
def fnRustBindingUptoCard : Claim7 := { stood := { row := fnRustBindingUptoRow, standIns := [], harness := (true, "0155918ff2b352a16d1a2e4dfaaf456127358768504d25a78cd90c49792ff35a"), looks := true }, kinds := [], alts := [], laidByText := true, laidKinds := [.data, .data, .data, .data, .sentinel, .mapped, .pinned], laidTests := true, laidLooks := .later }
def FnRustBindingUptoCardSaid : Prop := Claim7.holds Tryz.pinned (.plain (OpenSpec.upto fnRustBindingSpec)) fnRustBindingUptoCard

/-- THE SECOND FORM's CARD OF 'laws.FnRustLifetimes'. -/
def fnRustLifetimesUptoCard : Claim7 := { stood := { row := fnRustLifetimesUptoRow, standIns := [], harness := (true, "0155918ff2b352a16d1a2e4dfaaf456127358768504d25a78cd90c49792ff35a"), looks := true }, kinds := [], alts := [], laidByText := true, laidKinds := [.data, .data, .data, .data, .sentinel, .mapped, .pinned], laidTests := true, laidLooks := .later }
def FnRustLifetimesUptoCardSaid : Prop := Claim7.holds Tryz.pinned (.plain (OpenSpec.upto fnRustLifetimesSpec)) fnRustLifetimesUptoCard
end Rows
end Go.Proofs.YtidokamjbglkbaaGreatDoor
