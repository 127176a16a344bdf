/-
  DERIVED. GIVEN WITH THE SEED: THE CARDS: each row of YtaeiclgdhchneaaGreatDoorRows.lean that lists a variable, with what it lists TIED to the program's text (the seventh form; the later family's looks); each row that meets fmt, with fmt's text TOLD by the authors' own Lean function (tested against real Go, not proved from fmt's source: count such statements apart). THE CARD IS WHAT COUNTS. Prove the row's statement (the work); the ties are given (YtaeiclgdhchneaaGreatDoorTie.lean); close each card by the builder's one call (the guide's Derived/Test/ToyasCard.lean, 'card_holds'). Laid BY PROGRAM, IN A SANDBOX (cutbox-door.mjs). By AI agents, Wed Nov 11 2026. No macro, syntax, notation, axiom, sorry.
-/
import Derived.Test.YtaeiclgdhchneaaGreatDoorRows
import GoSem.ClaimSeven
namespace Go.Proofs.YtaeiclgdhchneaaGreatDoor
namespace Rows

/-- THE TIED CARD OF 'laws.FnRustMark'. -/
def fnRustMarkCard : Claim7 := { stood := { row := fnRustMarkRow, standIns := [], harness := (true, "200938d3964a850ef7b079e1df02f2e63fab1c777b76752a4ba31c8b6ab2eb45"), looks := true }, kinds := [], alts := [], laidByText := true, laidKinds := [.data, .data, .data, .data, .sentinel, .mapped, .pinned], laidTests := true, laidLooks := .later }
def FnRustMarkCardSaid : Prop := Claim7.holds Tryz.pinned (.plain (OpenSpec.ofChange fnRustMarkSpec)) fnRustMarkCard

/-- THE TIED CARD OF 'laws.FnRustNested'. -/
def fnRustNestedCard : Claim7 := { stood := { row := fnRustNestedRow, standIns := [], harness := (true, "200938d3964a850ef7b079e1df02f2e63fab1c777b76752a4ba31c8b6ab2eb45"), looks := true }, kinds := [], alts := [], laidByText := true, laidKinds := [.data, .data, .data, .data, .sentinel, .mapped, .pinned], laidTests := true, laidLooks := .later }
def FnRustNestedCardSaid : Prop := Claim7.holds Tryz.pinned (.plain (OpenSpec.ofChange fnRustNestedSpec)) fnRustNestedCard

/-- THE TIED CARD OF 'laws.FnRustClosure'. -/
def fnRustClosureCard : Claim7 := { stood := { row := fnRustClosureRow, standIns := [], harness := (true, "200938d3964a850ef7b079e1df02f2e63fab1c777b76752a4ba31c8b6ab2eb45"), looks := true }, kinds := [], alts := [], laidByText := true, laidKinds := [.data, .data, .data, .data, .sentinel, .mapped, .pinned], laidTests := true, laidLooks := .later }
def FnRustClosureCardSaid : Prop := Claim7.holds Tryz.pinned (.plain (OpenSpec.ofChange fnRustClosureSpec)) fnRustClosureCard

/-- THE TIED CARD OF 'laws.FnRustShim'. -/
def fnRustShimCard : Claim7 := { stood := { row := fnRustShimRow, standIns := [], harness := (true, "200938d3964a850ef7b079e1df02f2e63fab1c777b76752a4ba31c8b6ab2eb45"), looks := true }, kinds := [], alts := [], laidByText := true, laidKinds := [.data, .data, .data, .data, .sentinel, .mapped, .pinned], laidTests := true, laidLooks := .later }
def FnRustShimCardSaid : Prop := Claim7.holds Tryz.pinned (.plain (OpenSpec.ofChange fnRustShimSpec)) fnRustShimCard

/-- THE TIED CARD OF 'laws.FnRustMethod'. -/
def fnRustMethodCard : Claim7 := { stood := { row := fnRustMethodRow, standIns := [], harness := (true, "200938d3964a850ef7b079e1df02f2e63fab1c777b76752a4ba31c8b6ab2eb45"), looks := true }, kinds := [], alts := [], laidByText := true, laidKinds := [.data, .data, .data, .data, .sentinel, .mapped, .pinned], laidTests := true, laidLooks := .later }
def FnRustMethodCardSaid : Prop := Claim7.holds Tryz.pinned (.plain (OpenSpec.ofChange fnRustMethodSpec)) fnRustMethodCard

/-- THE TIED CARD OF 'laws.FnRustTuple'. -/
def fnRustTupleCard : Claim7 := { stood := { row := fnRustTupleRow, standIns := [], harness := (true, "200938d3964a850ef7b079e1df02f2e63fab1c777b76752a4ba31c8b6ab2eb45"), looks := true }, kinds := [], alts := [], laidByText := true, laidKinds := [.data, .data, .data, .data, .sentinel, .mapped, .pinned], laidTests := true, laidLooks := .later }
def FnRustTupleCardSaid : Prop := Claim7.holds Tryz.pinned (.plain (OpenSpec.ofChange fnRustTupleSpec)) fnRustTupleCard

/-- THE TIED CARD OF 'laws.FnRustArguments'. -/
def fnRustArgumentsCard : Claim7 := { stood := { row := fnRustArgumentsRow, standIns := [], harness := (true, "200938d3964a850ef7b079e1df02f2e63fab1c777b76752a4ba31c8b6ab2eb45"), looks := true }, kinds := [], alts := [], laidByText := true, laidKinds := [.data, .data, .data, .data, .sentinel, .mapped, .pinned], laidTests := true, laidLooks := .later }
def FnRustArgumentsCardSaid : Prop := Claim7.holds Tryz.pinned (.plain (OpenSpec.ofChange fnRustArgumentsSpec)) fnRustArgumentsCard

/-- THE TIED CARD OF 'laws.FnRustUnsafe'. -/
def fnRustUnsafeCard : Claim7 := { stood := { row := fnRustUnsafeRow, standIns := [], harness := (true, "200938d3964a850ef7b079e1df02f2e63fab1c777b76752a4ba31c8b6ab2eb45"), looks := true }, kinds := [], alts := [], laidByText := true, laidKinds := [.data, .data, .data, .data, .sentinel, .mapped, .pinned], laidTests := true, laidLooks := .later }
def FnRustUnsafeCardSaid : Prop := Claim7.holds Tryz.pinned (.plain (OpenSpec.ofChange fnRustUnsafeSpec)) fnRustUnsafeCard

/-- THE TIED CARD OF 'laws.FnRustFunction'. -/
def fnRustFunctionCard : Claim7 := { stood := { row := fnRustFunctionRow, standIns := [], harness := (true, "200938d3964a850ef7b079e1df02f2e63fab1c777b76752a4ba31c8b6ab2eb45"), looks := true }, kinds := [], alts := [], laidByText := true, laidKinds := [.data, .data, .data, .data, .sentinel, .mapped, .pinned], laidTests := true, laidLooks := .later }
def FnRustFunctionCardSaid : Prop := Claim7.holds Tryz.pinned (.plain (OpenSpec.ofChange fnRustFunctionSpec)) fnRustFunctionCard

/-- THE TIED CARD OF 'laws.FnRustOpen'. -/
def fnRustOpenCard : Claim7 := { stood := { row := fnRustOpenRow, standIns := [], harness := (true, "200938d3964a850ef7b079e1df02f2e63fab1c777b76752a4ba31c8b6ab2eb45"), looks := true }, kinds := [], alts := [], laidByText := true, laidKinds := [.data, .data, .data, .data, .sentinel, .mapped, .pinned], laidTests := true, laidLooks := .later }
def FnRustOpenCardSaid : Prop := Claim7.holds Tryz.pinned (.plain (OpenSpec.ofChange fnRustOpenSpec)) fnRustOpenCard

/-- THE TIED CARD OF 'laws.FnRustArray'. -/
def fnRustArrayCard : Claim7 := { stood := { row := fnRustArrayRow, standIns := [], harness := (true, "200938d3964a850ef7b079e1df02f2e63fab1c777b76752a4ba31c8b6ab2eb45"), looks := true }, kinds := [], alts := [], laidByText := true, laidKinds := [.data, .data, .data, .data, .sentinel, .mapped, .pinned], laidTests := true, laidLooks := .later }
def FnRustArrayCardSaid : Prop := Claim7.holds Tryz.pinned (.plain (OpenSpec.ofChange fnRustArraySpec)) fnRustArrayCard

/-- THE TIED CARD OF 'laws.FnRustMore'. -/
def fnRustMoreCard : Claim7 := { stood := { row := fnRustMoreRow, standIns := [], harness := (true, "200938d3964a850ef7b079e1df02f2e63fab1c777b76752a4ba31c8b6ab2eb45"), looks := true }, kinds := [], alts := [], laidByText := true, laidKinds := [.data, .data, .data, .data, .sentinel, .mapped, .pinned], laidTests := true, laidLooks := .later }
def FnRustMoreCardSaid : Prop := Claim7.holds Tryz.pinned (.plain (OpenSpec.ofChange fnRustMoreSpec)) fnRustMoreCard

/-- THE SECOND FORM's CARD OF 'laws.FnRustMark'. -/
def fnRustMarkUptoCard : Claim7 := { stood := { row := fnRustMarkUptoRow, standIns := [], harness := (true, "200938d3964a850ef7b079e1df02f2e63fab1c777b76752a4ba31c8b6ab2eb45"), looks := true }, kinds := [], alts := [], laidByText := true, laidKinds := [.data, .data, .data, .data, .sentinel, .mapped, .pinned], laidTests := true, laidLooks := .later }
def FnRustMarkUptoCardSaid : Prop := Claim7.holds Tryz.pinned (.plain (OpenSpec.upto fnRustMarkSpec)) fnRustMarkUptoCard

/-- THE SECOND FORM's CARD OF 'laws.FnRustNested'. -/
def fnRustNestedUptoCard : Claim7 := { stood := { row := fnRustNestedUptoRow, standIns := [], harness := (true, "200938d3964a850ef7b079e1df02f2e63fab1c777b76752a4ba31c8b6ab2eb45"), looks := true }, kinds := [], alts := [], laidByText := true, laidKinds := [.data, .data, .data, .data, .sentinel, .mapped, .pinned], laidTests := true, laidLooks := .later }
def FnRustNestedUptoCardSaid : Prop := Claim7.holds Tryz.pinned (.plain (OpenSpec.upto fnRustNestedSpec)) fnRustNestedUptoCard

/-- THE SECOND FORM's CARD OF 'laws.FnRustClosure'. -/
def fnRustClosureUptoCard : Claim7 := { stood := { row := fnRustClosureUptoRow, standIns := [], harness := (true, "200938d3964a850ef7b079e1df02f2e63fab1c777b76752a4ba31c8b6ab2eb45"), looks := true }, kinds := [], alts := [], laidByText := true, laidKinds := [.data, .data, .data, .data, .sentinel, .mapped, .pinned], laidTests := true, laidLooks := .later }
def FnRustClosureUptoCardSaid : Prop := Claim7.holds Tryz.pinned (.plain (OpenSpec.upto fnRustClosureSpec)) fnRustClosureUptoCard

/-- THE SECOND FORM's CARD OF 'laws.FnRustShim'. -/
def fnRustShimUptoCard : Claim7 := { stood := { row := fnRustShimUptoRow, standIns := [], harness := (true, "200938d3964a850ef7b079e1df02f2e63fab1c777b76752a4ba31c8b6ab2eb45"), looks := true }, kinds := [], alts := [], laidByText := true, laidKinds := [.data, .data, .data, .data, .sentinel, .mapped, .pinned], laidTests := true, laidLooks := .later }
def FnRustShimUptoCardSaid : Prop := Claim7.holds Tryz.pinned (.plain (OpenSpec.upto fnRustShimSpec)) fnRustShimUptoCard

/-- THE SECOND FORM's CARD OF 'laws.FnRustMethod'. -/
def fnRustMethodUptoCard : Claim7 := { stood := { row := fnRustMethodUptoRow, standIns := [], harness := (true, "200938d3964a850ef7b079e1df02f2e63fab1c777b76752a4ba31c8b6ab2eb45"), looks := true }, kinds := [], alts := [], laidByText := true, laidKinds := [.data, .data, .data, .data, .sentinel, .mapped, .pinned], laidTests := true, laidLooks := .later }
def FnRustMethodUptoCardSaid : Prop := Claim7.holds Tryz.pinned (.plain (OpenSpec.upto fnRustMethodSpec)) fnRustMethodUptoCard

/-- THE SECOND FORM's CARD OF 'laws.FnRustTuple'. -/
def fnRustTupleUptoCard : Claim7 := { stood := { row := fnRustTupleUptoRow, standIns := [], harness := (true, "200938d3964a850ef7b079e1df02f2e63fab1c777b76752a4ba31c8b6ab2eb45"), looks := true }, kinds := [], alts := [], laidByText := true, laidKinds := [.data, .data, .data, .data, .sentinel, .mapped, .pinned], laidTests := true, laidLooks := .later }
def FnRustTupleUptoCardSaid : Prop := Claim7.holds Tryz.pinned (.plain (OpenSpec.upto fnRustTupleSpec)) fnRustTupleUptoCard

/-- THE SECOND FORM's CARD OF 'laws.FnRustArguments'. -/
def fnRustArgumentsUptoCard : Claim7 := { stood := { row := fnRustArgumentsUptoRow, standIns := [], harness := (true, "200938d3964a850ef7b079e1df02f2e63fab1c777b76752a4ba31c8b6ab2eb45"), looks := true }, kinds := [], alts := [], laidByText := true, laidKinds := [.data, .data, .data, .data, .sentinel, .mapped, .pinned], laidTests := true, laidLooks := .later }
def FnRustArgumentsUptoCardSaid : Prop := Claim7.holds Tryz.pinned (.plain (OpenSpec.upto fnRustArgumentsSpec)) fnRustArgumentsUptoCard

/-- THE SECOND FORM's CARD OF 'laws.FnRustUnsafe'. -/
def fnRustUnsafeUptoCard : Claim7 := { stood := { row := fnRustUnsafeUptoRow, standIns := [], harness := (true, "200938d3964a850ef7b079e1df02f2e63fab1c777b76752a4ba31c8b6ab2eb45"), looks := true }, kinds := [], alts := [], laidByText := true, laidKinds := [.data, .data, .data, .data, .sentinel, .mapped, .pinned], laidTests := true, laidLooks := .later }
def FnRustUnsafeUptoCardSaid : Prop := Claim7.holds Tryz.pinned (.plain (OpenSpec.upto fnRustUnsafeSpec)) fnRustUnsafeUptoCard

/-- THE SECOND FORM's CARD OF 'laws.FnRustFunction'. -/
def fnRustFunctionUptoCard : Claim7 := { stood := { row := fnRustFunctionUptoRow, standIns := [], harness := (true, "200938d3964a850ef7b079e1df02f2e63fab1c777b76752a4ba31c8b6ab2eb45"), looks := true }, kinds := [], alts := [], laidByText := true, laidKinds := [.data, .data, .data, .data, .sentinel, .mapped, .pinned], laidTests := true, laidLooks := .later }
def FnRustFunctionUptoCardSaid : Prop := Claim7.holds Tryz.pinned (.plain (OpenSpec.upto fnRustFunctionSpec)) fnRustFunctionUptoCard

/-- THE SECOND FORM's CARD OF 'laws.FnRustOpen'. -/
def fnRustOpenUptoCard : Claim7 := { stood := { row := fnRustOpenUptoRow, standIns := [], harness := (true, "200938d3964a850ef7b079e1df02f2e63fab1c777b76752a4ba31c8b6ab2eb45"), looks := true }, kinds := [], alts := [], laidByText := true, laidKinds := [.data, .data, .data, .data, .sentinel, .mapped, .pinned], laidTests := true, laidLooks := .later }
def FnRustOpenUptoCardSaid : Prop := Claim7.holds Tryz.pinned (.plain (OpenSpec.upto fnRustOpenSpec)) fnRustOpenUptoCard

/-- THE SECOND FORM's CARD OF 'laws.FnRustArray'. -/
def fnRustArrayUptoCard : Claim7 := { stood := { row := fnRustArrayUptoRow, standIns := [], harness := (true, "200938d3964a850ef7b079e1df02f2e63fab1c777b76752a4ba31c8b6ab2eb45"), looks := true }, kinds := [], alts := [], laidByText := true, laidKinds := [.data, .data, .data, .data, .sentinel, .mapped, .pinned], laidTests := true, laidLooks := .later }
def FnRustArrayUptoCardSaid : Prop := Claim7.holds Tryz.pinned (.plain (OpenSpec.upto fnRustArraySpec)) fnRustArrayUptoCard

/-- THE SECOND FORM's CARD OF 'laws.FnRustMore'. -/
def fnRustMoreUptoCard : Claim7 := { stood := { row := fnRustMoreUptoRow, standIns := [], harness := (true, "200938d3964a850ef7b079e1df02f2e63fab1c777b76752a4ba31c8b6ab2eb45"), looks := true }, kinds := [], alts := [], laidByText := true, laidKinds := [.data, .data, .data, .data, .sentinel, .mapped, .pinned], laidTests := true, laidLooks := .later }
def FnRustMoreUptoCardSaid : Prop := Claim7.holds Tryz.pinned (.plain (OpenSpec.upto fnRustMoreSpec)) fnRustMoreUptoCard
end Rows
end Go.Proofs.YtaeiclgdhchneaaGreatDoor
