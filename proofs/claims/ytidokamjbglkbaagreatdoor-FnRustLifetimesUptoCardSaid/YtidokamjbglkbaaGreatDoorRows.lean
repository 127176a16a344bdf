/-
  NARROWER THAN 'FOR EVERY INPUT', by the rows' own cells (each row's printed sentence says how): FnRustAgain: loops, ifaces, maps, laid · FnRustObject: loops, ifaces, maps, laid · FnRustAs: loops, ifaces, maps, laid · FnRustSelf: loops, ifaces, maps, laid · FnRustBinding: loops, ifaces, maps, laid · FnRustLifetimes: loops, ifaces, maps, laid.
  DERIVED. THE GIVEN ROWS OF THIS SEAT. 6 by the template 'for every input the law returns true; each argument reads behind the call as it read before'; 0 by the template 'total and deterministic' (their statements: YtidokamjbglkbaaGreatDoorTotals.lean).
  GIVEN WITH THE SEED: the statements are not yours to turn. If you find one false, say at which input.
  Laid BY PROGRAM, IN A SANDBOX (cutbox-rows.mjs): the forced cells as the released guide's own fill.sh prints them over the translation 8d24a29ad6910eeb… (all of the seat's roots in one cut). By AI agents, Wed Nov 11 2026. No macro, syntax, notation, axiom, sorry.
-/
import Derived.Test.YtidokamjbglkbaaGreatDoorChecked
import GoSem.PinnedTables
import GoSem.Claim
import GoSem.ClaimJoined
import GoSem.ClaimMapViews
import Derived.JoinedTies
import Derived.KernelRfl
namespace Go.Proofs.YtidokamjbglkbaaGreatDoor
/- THE CELL 'sum', in the pinned program and in every row, IS THE sha256 OF THE DUMP (.gsa) THAT YtidokamjbglkbaaGreatDoorProg.lean LOADS. Nothing in Lean hashes anything: it is a label: what it is worth is what the hold of that sum in a sandbox is worth. -/
noncomputable def Tryz.pinned : Pinned := { name := "ytidokamjbglkbaagreatdoor", sum := "8d24a29ad6910eeb450e95d40f8a992b5685056613140c6ea62e4f5e55c141c2", checked := Tryz.checked }
namespace Rows
def none {H : Type} : Left H := { results := [], args := [] }

/- WHAT THE LISTED PACKAGE-LEVEL VARIABLES READ AS WHEN THE CALL BEGINS. Each datum BY PROGRAM (the guide's laid-datum.mjs) off the statement by which the dump's own 'gosem.cut.vars' lays the variable. In a bare row this is a premise. The card (YtidokamjbglkbaaGreatDoorCards.lean) ties it to the program's text. -/
def laid_math_bits_deBruijn32tab {H : Type} : DataW H := .agg [.lit (.int .u8 0), .lit (.int .u8 1), .lit (.int .u8 28), .lit (.int .u8 2), .lit (.int .u8 29), .lit (.int .u8 14), .lit (.int .u8 24), .lit (.int .u8 3), .lit (.int .u8 30), .lit (.int .u8 22), .lit (.int .u8 20), .lit (.int .u8 15), .lit (.int .u8 25), .lit (.int .u8 17), .lit (.int .u8 4), .lit (.int .u8 8), .lit (.int .u8 31), .lit (.int .u8 27), .lit (.int .u8 13), .lit (.int .u8 23), .lit (.int .u8 21), .lit (.int .u8 19), .lit (.int .u8 16), .lit (.int .u8 7), .lit (.int .u8 26), .lit (.int .u8 12), .lit (.int .u8 18), .lit (.int .u8 6), .lit (.int .u8 11), .lit (.int .u8 5), .lit (.int .u8 10), .lit (.int .u8 9)]
def laid_math_bits_deBruijn64tab {H : Type} : DataW H := .agg [.lit (.int .u8 0), .lit (.int .u8 1), .lit (.int .u8 56), .lit (.int .u8 2), .lit (.int .u8 57), .lit (.int .u8 49), .lit (.int .u8 28), .lit (.int .u8 3), .lit (.int .u8 61), .lit (.int .u8 58), .lit (.int .u8 42), .lit (.int .u8 50), .lit (.int .u8 38), .lit (.int .u8 29), .lit (.int .u8 17), .lit (.int .u8 4), .lit (.int .u8 62), .lit (.int .u8 47), .lit (.int .u8 59), .lit (.int .u8 36), .lit (.int .u8 45), .lit (.int .u8 43), .lit (.int .u8 51), .lit (.int .u8 22), .lit (.int .u8 53), .lit (.int .u8 39), .lit (.int .u8 33), .lit (.int .u8 30), .lit (.int .u8 24), .lit (.int .u8 18), .lit (.int .u8 12), .lit (.int .u8 5), .lit (.int .u8 63), .lit (.int .u8 55), .lit (.int .u8 48), .lit (.int .u8 27), .lit (.int .u8 60), .lit (.int .u8 41), .lit (.int .u8 37), .lit (.int .u8 16), .lit (.int .u8 46), .lit (.int .u8 35), .lit (.int .u8 44), .lit (.int .u8 21), .lit (.int .u8 52), .lit (.int .u8 32), .lit (.int .u8 23), .lit (.int .u8 11), .lit (.int .u8 54), .lit (.int .u8 26), .lit (.int .u8 40), .lit (.int .u8 15), .lit (.int .u8 34), .lit (.int .u8 20), .lit (.int .u8 31), .lit (.int .u8 10), .lit (.int .u8 25), .lit (.int .u8 14), .lit (.int .u8 19), .lit (.int .u8 9), .lit (.int .u8 13), .lit (.int .u8 8), .lit (.int .u8 7), .lit (.int .u8 6)]
def laid_internal_strconv_uint64pow10 {H : Type} : DataW H := .agg [.lit (.int .u64 1), .lit (.int .u64 10), .lit (.int .u64 100), .lit (.int .u64 1000), .lit (.int .u64 10000), .lit (.int .u64 100000), .lit (.int .u64 1000000), .lit (.int .u64 10000000), .lit (.int .u64 100000000), .lit (.int .u64 1000000000), .lit (.int .u64 10000000000), .lit (.int .u64 100000000000), .lit (.int .u64 1000000000000), .lit (.int .u64 10000000000000), .lit (.int .u64 100000000000000), .lit (.int .u64 1000000000000000), .lit (.int .u64 10000000000000000), .lit (.int .u64 100000000000000000), .lit (.int .u64 1000000000000000000), .lit (.int .u64 10000000000000000000)]
def laid_unicode_utf8_acceptRanges {H : Type} : DataW H := .agg [.agg [.lit (.int .u8 128), .lit (.int .u8 191)], .agg [.lit (.int .u8 160), .lit (.int .u8 191)], .agg [.lit (.int .u8 128), .lit (.int .u8 159)], .agg [.lit (.int .u8 144), .lit (.int .u8 191)], .agg [.lit (.int .u8 128), .lit (.int .u8 143)], .agg [.lit (.int .u8 0), .lit (.int .u8 0)], .agg [.lit (.int .u8 0), .lit (.int .u8 0)], .agg [.lit (.int .u8 0), .lit (.int .u8 0)], .agg [.lit (.int .u8 0), .lit (.int .u8 0)], .agg [.lit (.int .u8 0), .lit (.int .u8 0)], .agg [.lit (.int .u8 0), .lit (.int .u8 0)], .agg [.lit (.int .u8 0), .lit (.int .u8 0)], .agg [.lit (.int .u8 0), .lit (.int .u8 0)], .agg [.lit (.int .u8 0), .lit (.int .u8 0)], .agg [.lit (.int .u8 0), .lit (.int .u8 0)], .agg [.lit (.int .u8 0), .lit (.int .u8 0)]]
def laid_loop_example_pub_g01453_pub_rustdemangle_ErrNotMangledName {H : Type} : DataW H := .iface "*errors.errorString" (.ptr (.agg [.lit (.string [110, 111, 116, 32, 97, 32, 67, 43, 43, 32, 111, 114, 32, 82, 117, 115, 116, 32, 109, 97, 110, 103, 108, 101, 100, 32, 110, 97, 109, 101])]))
def laid_loop_example_pub_g01453_pub_rustdemangle_rustBasicTypes {H : Type} : DataW H := .map [(.int .u8 97, .lit (.string [105, 56])), (.int .u8 98, .lit (.string [98, 111, 111, 108])), (.int .u8 99, .lit (.string [99, 104, 97, 114])), (.int .u8 100, .lit (.string [102, 54, 52])), (.int .u8 101, .lit (.string [115, 116, 114])), (.int .u8 102, .lit (.string [102, 51, 50])), (.int .u8 104, .lit (.string [117, 56])), (.int .u8 105, .lit (.string [105, 115, 105, 122, 101])), (.int .u8 106, .lit (.string [117, 115, 105, 122, 101])), (.int .u8 108, .lit (.string [105, 51, 50])), (.int .u8 109, .lit (.string [117, 51, 50])), (.int .u8 110, .lit (.string [105, 49, 50, 56])), (.int .u8 111, .lit (.string [117, 49, 50, 56])), (.int .u8 112, .lit (.string [95])), (.int .u8 115, .lit (.string [105, 49, 54])), (.int .u8 116, .lit (.string [117, 49, 54])), (.int .u8 117, .lit (.string [40, 41])), (.int .u8 118, .lit (.string [46, 46, 46])), (.int .u8 120, .lit (.string [105, 54, 52])), (.int .u8 121, .lit (.string [117, 54, 52])), (.int .u8 122, .lit (.string [33]))]
/-- One of Go's own tables, pinned by name: the form's constant. -/
def laid_unicode_utf8_first : DataW Unit := Go.Pinned.utf8First

/-- 'laws.FnRustAgain': WHATEVER THE INPUT: true; the input reads as it did. -/
def fnRustAgainSpec : ChangeSpec := { name := "fnRustAgain", vars := ["loop.example/pub-g01453/pub/rustdemangle.ErrNotMangledName", "loop.example/pub-g01453/pub/rustdemangle.rustBasicTypes"], fn := fun _ => fun
  | [d, g1, g2] => { results := [.lit (.bool true)], args := [d], vars := [g1, g2] }
  | _ => none }
def fnRustAgainRow : OpenClaim := { program := "ytidokamjbglkbaagreatdoor", sum := "8d24a29ad6910eeb450e95d40f8a992b5685056613140c6ea62e4f5e55c141c2", func := "loop.example/pub-g01453/laws.FnRustAgain", spec := "fnRustAgain", inPlace := ["internal/abi.NoEscape"], unfollowed := true, recurses := true, named := ["unicode/utf8.first", "unicode/utf8.acceptRanges", "internal/strconv.uint64pow10", "math/bits.deBruijn32tab", "math/bits.deBruijn64tab", "loop.example/pub-g01453/pub/rustdemangle.ErrNotMangledName", "loop.example/pub-g01453/pub/rustdemangle.rustBasicTypes"], maps := true, ifaces := true, loops := true, apart := false, laid := [("math/bits.deBruijn32tab", laid_math_bits_deBruijn32tab), ("math/bits.deBruijn64tab", laid_math_bits_deBruijn64tab), ("internal/strconv.uint64pow10", laid_internal_strconv_uint64pow10), ("unicode/utf8.acceptRanges", laid_unicode_utf8_acceptRanges), ("loop.example/pub-g01453/pub/rustdemangle.ErrNotMangledName", laid_loop_example_pub_g01453_pub_rustdemangle_ErrNotMangledName), ("loop.example/pub-g01453/pub/rustdemangle.rustBasicTypes", laid_loop_example_pub_g01453_pub_rustdemangle_rustBasicTypes), ("unicode/utf8.first", laid_unicode_utf8_first)] }
def FnRustAgainSaid : Prop := fnRustAgainRow.holds Tryz.pinned (OpenSpec.ofChange fnRustAgainSpec)

/-- ITS FALSE NEIGHBOUR: 'it returns false'. Refute it at one input. -/
def fnRustAgainWrong : ChangeSpec := { name := "fnRustAgain", vars := ["loop.example/pub-g01453/pub/rustdemangle.ErrNotMangledName", "loop.example/pub-g01453/pub/rustdemangle.rustBasicTypes"], fn := fun _ => fun
  | [d, g1, g2] => { results := [.lit (.bool false)], args := [d], vars := [g1, g2] }
  | _ => none }
def FnRustAgainWrongFalsely : Prop := fnRustAgainRow.holds Tryz.pinned (OpenSpec.ofChange fnRustAgainWrong)

/-- 'laws.FnRustObject': WHATEVER THE INPUT: true; the input reads as it did. -/
def fnRustObjectSpec : ChangeSpec := { name := "fnRustObject", vars := ["loop.example/pub-g01453/pub/rustdemangle.ErrNotMangledName", "loop.example/pub-g01453/pub/rustdemangle.rustBasicTypes"], fn := fun _ => fun
  | [d1, d2, g1, g2] => { results := [.lit (.bool true)], args := [d1, d2], vars := [g1, g2] }
  | _ => none }
def fnRustObjectRow : OpenClaim := { program := "ytidokamjbglkbaagreatdoor", sum := "8d24a29ad6910eeb450e95d40f8a992b5685056613140c6ea62e4f5e55c141c2", func := "loop.example/pub-g01453/laws.FnRustObject", spec := "fnRustObject", inPlace := ["internal/abi.NoEscape"], unfollowed := true, recurses := true, named := ["unicode/utf8.first", "unicode/utf8.acceptRanges", "internal/strconv.uint64pow10", "math/bits.deBruijn32tab", "math/bits.deBruijn64tab", "loop.example/pub-g01453/pub/rustdemangle.ErrNotMangledName", "loop.example/pub-g01453/pub/rustdemangle.rustBasicTypes"], maps := true, ifaces := true, loops := true, apart := false, laid := [("math/bits.deBruijn32tab", laid_math_bits_deBruijn32tab), ("math/bits.deBruijn64tab", laid_math_bits_deBruijn64tab), ("internal/strconv.uint64pow10", laid_internal_strconv_uint64pow10), ("unicode/utf8.acceptRanges", laid_unicode_utf8_acceptRanges), ("loop.example/pub-g01453/pub/rustdemangle.ErrNotMangledName", laid_loop_example_pub_g01453_pub_rustdemangle_ErrNotMangledName), ("loop.example/pub-g01453/pub/rustdemangle.rustBasicTypes", laid_loop_example_pub_g01453_pub_rustdemangle_rustBasicTypes), ("unicode/utf8.first", laid_unicode_utf8_first)] }
def FnRustObjectSaid : Prop := fnRustObjectRow.holds Tryz.pinned (OpenSpec.ofChange fnRustObjectSpec)

/-- ITS FALSE NEIGHBOUR: 'it returns false'. Refute it at one input. -/
def fnRustObjectWrong : ChangeSpec := { name := "fnRustObject", vars := ["loop.example/pub-g01453/pub/rustdemangle.ErrNotMangledName", "loop.example/pub-g01453/pub/rustdemangle.rustBasicTypes"], fn := fun _ => fun
  | [d1, d2, g1, g2] => { results := [.lit (.bool false)], args := [d1, d2], vars := [g1, g2] }
  | _ => none }
def FnRustObjectWrongFalsely : Prop := fnRustObjectRow.holds Tryz.pinned (OpenSpec.ofChange fnRustObjectWrong)

/-- 'laws.FnRustAs': WHATEVER THE INPUT: true; the input reads as it did. -/
def fnRustAsSpec : ChangeSpec := { name := "fnRustAs", vars := ["loop.example/pub-g01453/pub/rustdemangle.ErrNotMangledName", "loop.example/pub-g01453/pub/rustdemangle.rustBasicTypes"], fn := fun _ => fun
  | [d1, d2, d3, g1, g2] => { results := [.lit (.bool true)], args := [d1, d2, d3], vars := [g1, g2] }
  | _ => none }
def fnRustAsRow : OpenClaim := { program := "ytidokamjbglkbaagreatdoor", sum := "8d24a29ad6910eeb450e95d40f8a992b5685056613140c6ea62e4f5e55c141c2", func := "loop.example/pub-g01453/laws.FnRustAs", spec := "fnRustAs", inPlace := ["internal/abi.NoEscape"], unfollowed := true, recurses := true, named := ["unicode/utf8.first", "unicode/utf8.acceptRanges", "internal/strconv.uint64pow10", "math/bits.deBruijn32tab", "math/bits.deBruijn64tab", "loop.example/pub-g01453/pub/rustdemangle.ErrNotMangledName", "loop.example/pub-g01453/pub/rustdemangle.rustBasicTypes"], maps := true, ifaces := true, loops := true, apart := false, laid := [("math/bits.deBruijn32tab", laid_math_bits_deBruijn32tab), ("math/bits.deBruijn64tab", laid_math_bits_deBruijn64tab), ("internal/strconv.uint64pow10", laid_internal_strconv_uint64pow10), ("unicode/utf8.acceptRanges", laid_unicode_utf8_acceptRanges), ("loop.example/pub-g01453/pub/rustdemangle.ErrNotMangledName", laid_loop_example_pub_g01453_pub_rustdemangle_ErrNotMangledName), ("loop.example/pub-g01453/pub/rustdemangle.rustBasicTypes", laid_loop_example_pub_g01453_pub_rustdemangle_rustBasicTypes), ("unicode/utf8.first", laid_unicode_utf8_first)] }
def FnRustAsSaid : Prop := fnRustAsRow.holds Tryz.pinned (OpenSpec.ofChange fnRustAsSpec)

/-- ITS FALSE NEIGHBOUR: 'it returns false'. Refute it at one input. -/
def fnRustAsWrong : ChangeSpec := { name := "fnRustAs", vars := ["loop.example/pub-g01453/pub/rustdemangle.ErrNotMangledName", "loop.example/pub-g01453/pub/rustdemangle.rustBasicTypes"], fn := fun _ => fun
  | [d1, d2, d3, g1, g2] => { results := [.lit (.bool false)], args := [d1, d2, d3], vars := [g1, g2] }
  | _ => none }
def FnRustAsWrongFalsely : Prop := fnRustAsRow.holds Tryz.pinned (OpenSpec.ofChange fnRustAsWrong)

/-- 'laws.FnRustSelf': WHATEVER THE INPUT: true; the input reads as it did. -/
def fnRustSelfSpec : ChangeSpec := { name := "fnRustSelf", vars := ["loop.example/pub-g01453/pub/rustdemangle.ErrNotMangledName", "loop.example/pub-g01453/pub/rustdemangle.rustBasicTypes"], fn := fun _ => fun
  | [d1, d2, g1, g2] => { results := [.lit (.bool true)], args := [d1, d2], vars := [g1, g2] }
  | _ => none }
def fnRustSelfRow : OpenClaim := { program := "ytidokamjbglkbaagreatdoor", sum := "8d24a29ad6910eeb450e95d40f8a992b5685056613140c6ea62e4f5e55c141c2", func := "loop.example/pub-g01453/laws.FnRustSelf", spec := "fnRustSelf", inPlace := ["internal/abi.NoEscape"], unfollowed := true, recurses := true, named := ["unicode/utf8.first", "unicode/utf8.acceptRanges", "internal/strconv.uint64pow10", "math/bits.deBruijn32tab", "math/bits.deBruijn64tab", "loop.example/pub-g01453/pub/rustdemangle.ErrNotMangledName", "loop.example/pub-g01453/pub/rustdemangle.rustBasicTypes"], maps := true, ifaces := true, loops := true, apart := false, laid := [("math/bits.deBruijn32tab", laid_math_bits_deBruijn32tab), ("math/bits.deBruijn64tab", laid_math_bits_deBruijn64tab), ("internal/strconv.uint64pow10", laid_internal_strconv_uint64pow10), ("unicode/utf8.acceptRanges", laid_unicode_utf8_acceptRanges), ("loop.example/pub-g01453/pub/rustdemangle.ErrNotMangledName", laid_loop_example_pub_g01453_pub_rustdemangle_ErrNotMangledName), ("loop.example/pub-g01453/pub/rustdemangle.rustBasicTypes", laid_loop_example_pub_g01453_pub_rustdemangle_rustBasicTypes), ("unicode/utf8.first", laid_unicode_utf8_first)] }
def FnRustSelfSaid : Prop := fnRustSelfRow.holds Tryz.pinned (OpenSpec.ofChange fnRustSelfSpec)

/-- ITS FALSE NEIGHBOUR: 'it returns false'. Refute it at one input. -/
def fnRustSelfWrong : ChangeSpec := { name := "fnRustSelf", vars := ["loop.example/pub-g01453/pub/rustdemangle.ErrNotMangledName", "loop.example/pub-g01453/pub/rustdemangle.rustBasicTypes"], fn := fun _ => fun
  | [d1, d2, g1, g2] => { results := [.lit (.bool false)], args := [d1, d2], vars := [g1, g2] }
  | _ => none }
def FnRustSelfWrongFalsely : Prop := fnRustSelfRow.holds Tryz.pinned (OpenSpec.ofChange fnRustSelfWrong)

/-- 'laws.FnRustBinding': WHATEVER THE INPUT: true; the input reads as it did. -/
def fnRustBindingSpec : ChangeSpec := { name := "fnRustBinding", vars := ["loop.example/pub-g01453/pub/rustdemangle.ErrNotMangledName", "loop.example/pub-g01453/pub/rustdemangle.rustBasicTypes"], fn := fun _ => fun
  | [d1, d2, d3, g1, g2] => { results := [.lit (.bool true)], args := [d1, d2, d3], vars := [g1, g2] }
  | _ => none }
def fnRustBindingRow : OpenClaim := { program := "ytidokamjbglkbaagreatdoor", sum := "8d24a29ad6910eeb450e95d40f8a992b5685056613140c6ea62e4f5e55c141c2", func := "loop.example/pub-g01453/laws.FnRustBinding", spec := "fnRustBinding", inPlace := ["internal/abi.NoEscape"], unfollowed := true, recurses := true, named := ["unicode/utf8.first", "unicode/utf8.acceptRanges", "internal/strconv.uint64pow10", "math/bits.deBruijn32tab", "math/bits.deBruijn64tab", "loop.example/pub-g01453/pub/rustdemangle.ErrNotMangledName", "loop.example/pub-g01453/pub/rustdemangle.rustBasicTypes"], maps := true, ifaces := true, loops := true, apart := false, laid := [("math/bits.deBruijn32tab", laid_math_bits_deBruijn32tab), ("math/bits.deBruijn64tab", laid_math_bits_deBruijn64tab), ("internal/strconv.uint64pow10", laid_internal_strconv_uint64pow10), ("unicode/utf8.acceptRanges", laid_unicode_utf8_acceptRanges), ("loop.example/pub-g01453/pub/rustdemangle.ErrNotMangledName", laid_loop_example_pub_g01453_pub_rustdemangle_ErrNotMangledName), ("loop.example/pub-g01453/pub/rustdemangle.rustBasicTypes", laid_loop_example_pub_g01453_pub_rustdemangle_rustBasicTypes), ("unicode/utf8.first", laid_unicode_utf8_first)] }
def FnRustBindingSaid : Prop := fnRustBindingRow.holds Tryz.pinned (OpenSpec.ofChange fnRustBindingSpec)

/-- ITS FALSE NEIGHBOUR: 'it returns false'. Refute it at one input. -/
def fnRustBindingWrong : ChangeSpec := { name := "fnRustBinding", vars := ["loop.example/pub-g01453/pub/rustdemangle.ErrNotMangledName", "loop.example/pub-g01453/pub/rustdemangle.rustBasicTypes"], fn := fun _ => fun
  | [d1, d2, d3, g1, g2] => { results := [.lit (.bool false)], args := [d1, d2, d3], vars := [g1, g2] }
  | _ => none }
def FnRustBindingWrongFalsely : Prop := fnRustBindingRow.holds Tryz.pinned (OpenSpec.ofChange fnRustBindingWrong)

/-- 'laws.FnRustLifetimes': WHATEVER THE INPUT: true; the input reads as it did. -/
def fnRustLifetimesSpec : ChangeSpec := { name := "fnRustLifetimes", vars := ["loop.example/pub-g01453/pub/rustdemangle.ErrNotMangledName", "loop.example/pub-g01453/pub/rustdemangle.rustBasicTypes"], fn := fun _ => fun
  | [d1, d2, d3, g1, g2] => { results := [.lit (.bool true)], args := [d1, d2, d3], vars := [g1, g2] }
  | _ => none }
def fnRustLifetimesRow : OpenClaim := { program := "ytidokamjbglkbaagreatdoor", sum := "8d24a29ad6910eeb450e95d40f8a992b5685056613140c6ea62e4f5e55c141c2", func := "loop.example/pub-g01453/laws.FnRustLifetimes", spec := "fnRustLifetimes", inPlace := ["internal/abi.NoEscape"], unfollowed := true, recurses := true, named := ["unicode/utf8.first", "unicode/utf8.acceptRanges", "internal/strconv.uint64pow10", "math/bits.deBruijn32tab", "math/bits.deBruijn64tab", "loop.example/pub-g01453/pub/rustdemangle.ErrNotMangledName", "loop.example/pub-g01453/pub/rustdemangle.rustBasicTypes"], maps := true, ifaces := true, loops := true, apart := false, laid := [("math/bits.deBruijn32tab", laid_math_bits_deBruijn32tab), ("math/bits.deBruijn64tab", laid_math_bits_deBruijn64tab), ("internal/strconv.uint64pow10", laid_internal_strconv_uint64pow10), ("unicode/utf8.acceptRanges", laid_unicode_utf8_acceptRanges), ("loop.example/pub-g01453/pub/rustdemangle.ErrNotMangledName", laid_loop_example_pub_g01453_pub_rustdemangle_ErrNotMangledName), ("loop.example/pub-g01453/pub/rustdemangle.rustBasicTypes", laid_loop_example_pub_g01453_pub_rustdemangle_rustBasicTypes), ("unicode/utf8.first", laid_unicode_utf8_first)] }
def FnRustLifetimesSaid : Prop := fnRustLifetimesRow.holds Tryz.pinned (OpenSpec.ofChange fnRustLifetimesSpec)

/-- ITS FALSE NEIGHBOUR: 'it returns false'. Refute it at one input. -/
def fnRustLifetimesWrong : ChangeSpec := { name := "fnRustLifetimes", vars := ["loop.example/pub-g01453/pub/rustdemangle.ErrNotMangledName", "loop.example/pub-g01453/pub/rustdemangle.rustBasicTypes"], fn := fun _ => fun
  | [d1, d2, d3, g1, g2] => { results := [.lit (.bool false)], args := [d1, d2, d3], vars := [g1, g2] }
  | _ => none }
def FnRustLifetimesWrongFalsely : Prop := fnRustLifetimesRow.holds Tryz.pinned (OpenSpec.ofChange fnRustLifetimesWrong)

/- THE SECOND FORM. 'bulk': how many values and letters a reading holds, each counted each time it is reached (what is shared counts as often as it is met; a slice's spare places count too). A statement '..UptoSaid' is the law's where the arguments, and the package variables that the reading takes, are together of bulk at most 1048576: NARROWER than '..Said'. Prove '..Said' where nothing that the law and all that it calls make is longer than what came in: it says more and counts as full. Else prove '..UptoSaid'. A law counts once. -/
mutual
def uptoBulk {H : Type} : DataW H → Nat
  | .lit (.string bytes) => bytes.length + 1
  | .lit _ => 1
  | .nil => 1
  | .ptr d => uptoBulk d + 1
  | .slice elems spare => uptoBulkAll elems + uptoBulkAll spare + 1
  | .agg parts => uptoBulkAll parts + 1
  | .iface _ d => uptoBulk d + 1
  | .map entries => uptoBulkEntries entries + 1
  | .held _ => 1
def uptoBulkAll {H : Type} : List (DataW H) → Nat
  | [] => 0
  | d :: r => uptoBulk d + uptoBulkAll r
def uptoBulkEntries {H : Type} : List (Lit × DataW H) → Nat
  | [] => 0
  | x :: r => uptoBulkEntry x + uptoBulkEntries r
def uptoBulkEntry {H : Type} : Lit × DataW H → Nat
  | (.string bytes, d) => bytes.length + uptoBulk d + 1
  | (_, d) => uptoBulk d + 1
 end
def uptoSmall : (H : Type) → List (DataW H) → Bool := fun _ ds => decide (uptoBulkAll ds ≤ 1048576)
def OpenSpec.upto (s : _root_.Go.ChangeSpec) : _root_.Go.OpenSpec := { _root_.Go.OpenSpec.ofChange s with cond := some uptoSmall }

/-- 'laws.FnRustAgain', WHERE WHAT IT READS IS OF BULK AT MOST 1048576: true; the input reads as it did. -/
def fnRustAgainUptoRow : OpenClaim := { program := "ytidokamjbglkbaagreatdoor", sum := "8d24a29ad6910eeb450e95d40f8a992b5685056613140c6ea62e4f5e55c141c2", func := "loop.example/pub-g01453/laws.FnRustAgain", spec := "fnRustAgain", inPlace := ["internal/abi.NoEscape"], unfollowed := true, recurses := true, named := ["unicode/utf8.first", "unicode/utf8.acceptRanges", "internal/strconv.uint64pow10", "math/bits.deBruijn32tab", "math/bits.deBruijn64tab", "loop.example/pub-g01453/pub/rustdemangle.ErrNotMangledName", "loop.example/pub-g01453/pub/rustdemangle.rustBasicTypes"], maps := true, ifaces := true, loops := true, apart := false, laid := [("math/bits.deBruijn32tab", laid_math_bits_deBruijn32tab), ("math/bits.deBruijn64tab", laid_math_bits_deBruijn64tab), ("internal/strconv.uint64pow10", laid_internal_strconv_uint64pow10), ("unicode/utf8.acceptRanges", laid_unicode_utf8_acceptRanges), ("loop.example/pub-g01453/pub/rustdemangle.ErrNotMangledName", laid_loop_example_pub_g01453_pub_rustdemangle_ErrNotMangledName), ("loop.example/pub-g01453/pub/rustdemangle.rustBasicTypes", laid_loop_example_pub_g01453_pub_rustdemangle_rustBasicTypes), ("unicode/utf8.first", laid_unicode_utf8_first)], narrowed := true }
def FnRustAgainUptoSaid : Prop := fnRustAgainUptoRow.holds Tryz.pinned (OpenSpec.upto fnRustAgainSpec)

/-- 'laws.FnRustObject', WHERE WHAT IT READS IS OF BULK AT MOST 1048576: true; the input reads as it did. -/
def fnRustObjectUptoRow : OpenClaim := { program := "ytidokamjbglkbaagreatdoor", sum := "8d24a29ad6910eeb450e95d40f8a992b5685056613140c6ea62e4f5e55c141c2", func := "loop.example/pub-g01453/laws.FnRustObject", spec := "fnRustObject", inPlace := ["internal/abi.NoEscape"], unfollowed := true, recurses := true, named := ["unicode/utf8.first", "unicode/utf8.acceptRanges", "internal/strconv.uint64pow10", "math/bits.deBruijn32tab", "math/bits.deBruijn64tab", "loop.example/pub-g01453/pub/rustdemangle.ErrNotMangledName", "loop.example/pub-g01453/pub/rustdemangle.rustBasicTypes"], maps := true, ifaces := true, loops := true, apart := false, laid := [("math/bits.deBruijn32tab", laid_math_bits_deBruijn32tab), ("math/bits.deBruijn64tab", laid_math_bits_deBruijn64tab), ("internal/strconv.uint64pow10", laid_internal_strconv_uint64pow10), ("unicode/utf8.acceptRanges", laid_unicode_utf8_acceptRanges), ("loop.example/pub-g01453/pub/rustdemangle.ErrNotMangledName", laid_loop_example_pub_g01453_pub_rustdemangle_ErrNotMangledName), ("loop.example/pub-g01453/pub/rustdemangle.rustBasicTypes", laid_loop_example_pub_g01453_pub_rustdemangle_rustBasicTypes), ("unicode/utf8.first", laid_unicode_utf8_first)], narrowed := true }
def FnRustObjectUptoSaid : Prop := fnRustObjectUptoRow.holds Tryz.pinned (OpenSpec.upto fnRustObjectSpec)

/-- 'laws.FnRustAs', WHERE WHAT IT READS IS OF BULK AT MOST 1048576: true; the input reads as it did. -/
def fnRustAsUptoRow : OpenClaim := { program := "ytidokamjbglkbaagreatdoor", sum := "8d24a29ad6910eeb450e95d40f8a992b5685056613140c6ea62e4f5e55c141c2", func := "loop.example/pub-g01453/laws.FnRustAs", spec := "fnRustAs", inPlace := ["internal/abi.NoEscape"], unfollowed := true, recurses := true, named := ["unicode/utf8.first", "unicode/utf8.acceptRanges", "internal/strconv.uint64pow10", "math/bits.deBruijn32tab", "math/bits.deBruijn64tab", "loop.example/pub-g01453/pub/rustdemangle.ErrNotMangledName", "loop.example/pub-g01453/pub/rustdemangle.rustBasicTypes"], maps := true, ifaces := true, loops := true, apart := false, laid := [("math/bits.deBruijn32tab", laid_math_bits_deBruijn32tab), ("math/bits.deBruijn64tab", laid_math_bits_deBruijn64tab), ("internal/strconv.uint64pow10", laid_internal_strconv_uint64pow10), ("unicode/utf8.acceptRanges", laid_unicode_utf8_acceptRanges), ("loop.example/pub-g01453/pub/rustdemangle.ErrNotMangledName", laid_loop_example_pub_g01453_pub_rustdemangle_ErrNotMangledName), ("loop.example/pub-g01453/pub/rustdemangle.rustBasicTypes", laid_loop_example_pub_g01453_pub_rustdemangle_rustBasicTypes), ("unicode/utf8.first", laid_unicode_utf8_first)], narrowed := true }
def FnRustAsUptoSaid : Prop := fnRustAsUptoRow.holds Tryz.pinned (OpenSpec.upto fnRustAsSpec)

/-- 'laws.FnRustSelf', WHERE WHAT IT READS IS OF BULK AT MOST 1048576: true; the input reads as it did. -/
def fnRustSelfUptoRow : OpenClaim := { program := "ytidokamjbglkbaagreatdoor", sum := "8d24a29ad6910eeb450e95d40f8a992b5685056613140c6ea62e4f5e55c141c2", func := "loop.example/pub-g01453/laws.FnRustSelf", spec := "fnRustSelf", inPlace := ["internal/abi.NoEscape"], unfollowed := true, recurses := true, named := ["unicode/utf8.first", "unicode/utf8.acceptRanges", "internal/strconv.uint64pow10", "math/bits.deBruijn32tab", "math/bits.deBruijn64tab", "loop.example/pub-g01453/pub/rustdemangle.ErrNotMangledName", "loop.example/pub-g01453/pub/rustdemangle.rustBasicTypes"], maps := true, ifaces := true, loops := true, apart := false, laid := [("math/bits.deBruijn32tab", laid_math_bits_deBruijn32tab), ("math/bits.deBruijn64tab", laid_math_bits_deBruijn64tab), ("internal/strconv.uint64pow10", laid_internal_strconv_uint64pow10), ("unicode/utf8.acceptRanges", laid_unicode_utf8_acceptRanges), ("loop.example/pub-g01453/pub/rustdemangle.ErrNotMangledName", laid_loop_example_pub_g01453_pub_rustdemangle_ErrNotMangledName), ("loop.example/pub-g01453/pub/rustdemangle.rustBasicTypes", laid_loop_example_pub_g01453_pub_rustdemangle_rustBasicTypes), ("unicode/utf8.first", laid_unicode_utf8_first)], narrowed := true }
def FnRustSelfUptoSaid : Prop := fnRustSelfUptoRow.holds Tryz.pinned (OpenSpec.upto fnRustSelfSpec)

/-- 'laws.FnRustBinding', WHERE WHAT IT READS IS OF BULK AT MOST 1048576: true; the input reads as it did. -/
def fnRustBindingUptoRow : OpenClaim := { program := "ytidokamjbglkbaagreatdoor", sum := "8d24a29ad6910eeb450e95d40f8a992b5685056613140c6ea62e4f5e55c141c2", func := "loop.example/pub-g01453/laws.FnRustBinding", spec := "fnRustBinding", inPlace := ["internal/abi.NoEscape"], unfollowed := true, recurses := true, named := ["unicode/utf8.first", "unicode/utf8.acceptRanges", "internal/strconv.uint64pow10", "math/bits.deBruijn32tab", "math/bits.deBruijn64tab", "loop.example/pub-g01453/pub/rustdemangle.ErrNotMangledName", "loop.example/pub-g01453/pub/rustdemangle.rustBasicTypes"], maps := true, ifaces := true, loops := true, apart := false, laid := [("math/bits.deBruijn32tab", laid_math_bits_deBruijn32tab), ("math/bits.deBruijn64tab", laid_math_bits_deBruijn64tab), ("internal/strconv.uint64pow10", laid_internal_strconv_uint64pow10), ("unicode/utf8.acceptRanges", laid_unicode_utf8_acceptRanges), ("loop.example/pub-g01453/pub/rustdemangle.ErrNotMangledName", laid_loop_example_pub_g01453_pub_rustdemangle_ErrNotMangledName), ("loop.example/pub-g01453/pub/rustdemangle.rustBasicTypes", laid_loop_example_pub_g01453_pub_rustdemangle_rustBasicTypes), ("unicode/utf8.first", laid_unicode_utf8_first)], narrowed := true }
def FnRustBindingUptoSaid : Prop := fnRustBindingUptoRow.holds Tryz.pinned (OpenSpec.upto fnRustBindingSpec)

/-- 'laws.FnRustLifetimes', WHERE WHAT IT READS IS OF BULK AT MOST 1048576: true; the input reads as it did. -/
def fnRustLifetimesUptoRow : OpenClaim := { program := "ytidokamjbglkbaagreatdoor", sum := "8d24a29ad6910eeb450e95d40f8a992b5685056613140c6ea62e4f5e55c141c2", func := "loop.example/pub-g01453/laws.FnRustLifetimes", spec := "fnRustLifetimes", inPlace := ["internal/abi.NoEscape"], unfollowed := true, recurses := true, named := ["unicode/utf8.first", "unicode/utf8.acceptRanges", "internal/strconv.uint64pow10", "math/bits.deBruijn32tab", "math/bits.deBruijn64tab", "loop.example/pub-g01453/pub/rustdemangle.ErrNotMangledName", "loop.example/pub-g01453/pub/rustdemangle.rustBasicTypes"], maps := true, ifaces := true, loops := true, apart := false, laid := [("math/bits.deBruijn32tab", laid_math_bits_deBruijn32tab), ("math/bits.deBruijn64tab", laid_math_bits_deBruijn64tab), ("internal/strconv.uint64pow10", laid_internal_strconv_uint64pow10), ("unicode/utf8.acceptRanges", laid_unicode_utf8_acceptRanges), ("loop.example/pub-g01453/pub/rustdemangle.ErrNotMangledName", laid_loop_example_pub_g01453_pub_rustdemangle_ErrNotMangledName), ("loop.example/pub-g01453/pub/rustdemangle.rustBasicTypes", laid_loop_example_pub_g01453_pub_rustdemangle_rustBasicTypes), ("unicode/utf8.first", laid_unicode_utf8_first)], narrowed := true }
def FnRustLifetimesUptoSaid : Prop := fnRustLifetimesUptoRow.holds Tryz.pinned (OpenSpec.upto fnRustLifetimesSpec)

end Rows
end Go.Proofs.YtidokamjbglkbaaGreatDoor
