/-
  DERIVED. GIVEN WITH THE SEED: THE CARDS: each row of YtlpbhfmhndhbkaaGreatDoorRows.lean that lists a variable, with what it lists TIED to the program's text (the seventh form; the later family's looks); each row that meets fmt, with fmt's text TOLD by the authors' own Lean function (tested against real Go, not proved from fmt's source: count such statements apart). THE CARD IS WHAT COUNTS. Prove the row's statement (the work); the ties are given (YtlpbhfmhndhbkaaGreatDoorTie.lean); close each card by the builder's one call (the guide's Derived/Test/ToyasCard.lean, 'card_holds'). Laid BY PROGRAM, IN A SANDBOX (cutbox-door.mjs). By AI agents, Wed Nov 11 2026. No macro, syntax, notation, axiom, sorry.
-/
import Derived.Test.YtlpbhfmhndhbkaaGreatDoorRows
import GoSem.ClaimSeven
namespace Go.Proofs.YtlpbhfmhndhbkaaGreatDoor
namespace Rows

/-- THE TIED CARD OF 'laws.FnRustNumber'. -/
def fnRustNumberCard : Claim7 := { stood := { row := fnRustNumberRow, standIns := [], harness := (true, "1085917b41cba93d121eaac1e63d1fe29dbaf0105e1664e273f5abb3e700ea70"), looks := true }, kinds := [], alts := [], laidByText := true, laidKinds := [.data, .data, .data, .data, .sentinel, .mapped, .pinned], laidTests := true, laidLooks := .later }
def FnRustNumberCardSaid : Prop := Claim7.holds Tryz.pinned (.plain (OpenSpec.ofChange fnRustNumberSpec)) fnRustNumberCard

/-- THE TIED CARD OF 'laws.FnConstantArgument'. -/
def fnConstantArgumentCard : Claim7 := { stood := { row := fnConstantArgumentRow, standIns := [], harness := (true, "1085917b41cba93d121eaac1e63d1fe29dbaf0105e1664e273f5abb3e700ea70"), looks := true }, kinds := [], alts := [], laidByText := true, laidKinds := [.data, .data, .data, .data, .sentinel, .mapped, .pinned], laidTests := true, laidLooks := .later }
def FnConstantArgumentCardSaid : Prop := Claim7.holds Tryz.pinned (.plain (OpenSpec.ofChange fnConstantArgumentSpec)) fnConstantArgumentCard

/-- THE SECOND FORM's CARD OF 'laws.FnRustNumber'. -/
def fnRustNumberUptoCard : Claim7 := { stood := { row := fnRustNumberUptoRow, standIns := [], harness := (true, "1085917b41cba93d121eaac1e63d1fe29dbaf0105e1664e273f5abb3e700ea70"), looks := true }, kinds := [], alts := [], laidByText := true, laidKinds := [.data, .data, .data, .data, .sentinel, .mapped, .pinned], laidTests := true, laidLooks := .later }
def FnRustNumberUptoCardSaid : Prop := Claim7.holds Tryz.pinned (.plain (OpenSpec.upto fnRustNumberSpec)) fnRustNumberUptoCard

/-- THE SECOND FORM's CARD OF 'laws.FnConstantArgument'. -/
def fnConstantArgumentUptoCard : Claim7 := { stood := { row := fnConstantArgumentUptoRow, standIns := [], harness := (true, "1085917b41cba93d121eaac1e63d1fe29dbaf0105e1664e273f5abb3e700ea70"), looks := true }, kinds := [], alts := [], laidByText := true, laidKinds := [.data, .data, .data, .data, .sentinel, .mapped, .pinned], laidTests := true, laidLooks := .later }
def FnConstantArgumentUptoCardSaid : Prop := Claim7.holds Tryz.pinned (.plain (OpenSpec.upto fnConstantArgumentSpec)) fnConstantArgumentUptoCard
end Rows
end Go.Proofs.YtlpbhfmhndhbkaaGreatDoor
