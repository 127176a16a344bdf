/- A witness's world: the listed variables hold what the program's text lays. What the rows' lists give. -/
import Derived.Test.YtlpbhfmhndhbkaaGreatDoorTreeAt
import Derived.Test.YtlpbhfmhndhbkaaGreatDoorBase2
import Derived.Test.YtlpbhfmhndhbkaaGreatDoorCards
import Derived.Lay
import Derived.Lib.LaidU8
import Derived.Deep.DeepWitnessRowRef
import Derived.MakeChecks
namespace Go.Proofs.YtlpbhfmhndhbkaaGreatDoor
open Go.ChangeShapes Go.WideShapes Go.ChangeAt Go.RowKit

theorem own : ownKnob Tryz.prog.godebug = none := by kernel_rfl

abbrev basicN : String := "loop.example/pub-g01453/pub/rustdemangle.rustBasicTypes"
/-- The seven lists. -/
def laidL : List (String × DataW Unit) := [("math/bits.deBruijn32tab", Rows.laid_math_bits_deBruijn32tab), ("math/bits.deBruijn64tab", Rows.laid_math_bits_deBruijn64tab), ("internal/strconv.uint64pow10", Rows.laid_internal_strconv_uint64pow10), ("unicode/utf8.acceptRanges", Rows.laid_unicode_utf8_acceptRanges), ("loop.example/pub-g01453/pub/rustdemangle.ErrNotMangledName", Rows.laid_loop_example_pub_g01453_pub_rustdemangle_ErrNotMangledName), (basicN, Rows.laid_loop_example_pub_g01453_pub_rustdemangle_rustBasicTypes), ("unicode/utf8.first", Rows.laid_unicode_utf8_first)]
def greatL : List String := ["math/bits.deBruijn32tab", "math/bits.deBruijn64tab", "internal/strconv.uint64pow10", "unicode/utf8.acceptRanges", "loop.example/pub-g01453/pub/rustdemangle.ErrNotMangledName", "unicode/utf8.first"]

/-- The entries of the table of basic types. -/
def basicEntries : Array MapEntry := ((List.range 21).map fun i => match ([(97, [105, 56]), (98, [98, 111, 111, 108]), (99, [99, 104, 97, 114]), (100, [102, 54, 52]), (101, [115, 116, 114]), (102, [102, 51, 50]), (104, [117, 56]), (105, [105, 115, 105, 122, 101]), (106, [117, 115, 105, 122, 101]), (108, [105, 51, 50]), (109, [117, 51, 50]), (110, [105, 49, 50, 56]), (111, [117, 49, 50, 56]), (112, [95]), (115, [105, 49, 54]), (116, [117, 49, 54]), (117, [40, 41]), (118, [46, 46, 46]), (120, [105, 54, 52]), (121, [117, 54, 52]), (122, [33])] : List (Int × List UInt8))[i]? with
  | some (k, s) => { key := .int .u8 k, val := .string ⟨s.toArray⟩, born := i }
  | none => { key := .int .u8 0, val := .string ⟨#[]⟩, born := i }).toArray
/-- The settled world with the table of basic types, in a block of its own. -/
noncomputable def w0 (os : Os) : World :=
  let h := World.holding Tryz.prog os ⟨#[.map basicEntries 21], #[], []⟩
  { h with heap := h.heap.modify ((Tryz.prog.globalNamed basicN).getD 0) fun
      | .cells _ t fr => .cells #[.map (some (h.heap.size - 1))] t fr
      | o => o }
/-- ... and with the other variables. -/
noncomputable def wit (os : Os) : World := (w0 os).layVars Tryz.prog (laidL.filter fun x => greatL.contains x.1)
theorem wit_os (os : Os) : (wit os).os = os := World.layVars_os _ _ _
noncomputable def blocksB : List Nat := [(Tryz.prog.globalNamed basicN).getD 0, (begin Tryz.prog (fun _ _ => 0) default).world.heap.size]

theorem wit_fits (os : Os) : (w0 os).layFits Tryz.prog (laidL.filter fun x => greatL.contains x.1) blocksB = true := by kernel_rfl
theorem wit_ifaces (os : Os) : (w0 os).layIfaces Tryz.prog (laidL.filter fun x => greatL.contains x.1) (wit os) = true := by kernel_rfl
theorem wit_map (os : Os) : LaidIn Tryz.prog (wit os) (laidL.filter fun x => !greatL.contains x.1) blocksB :=
  LaidIn.of_run blocksB 8 (by kernel_rfl) (by kernel_rfl) (by kernel_rfl) (by kernel_rfl)
theorem wit_met (os : Os) (args : Array Value) : laidMet Tryz.prog laidL ((wit os).forCall (fun _ _ => 0) ⟨#[], args, []⟩).memory := by
  have h : laidMet Tryz.prog laidL (wit os) := laidMet_layVars (w0 := w0 os) greatL blocksB rfl (wit_fits os) (wit_ifaces os) (wit_map os)
  exact h.of_heap (by simp [World.memory, World.forCall, Input.heap])
theorem plain_laidL (W : World) (h : laidMetH Tryz.prog laidL W) : laidMet Tryz.prog laidL W := by
  rw [MakeChecks.laidMetH_plain _ _ _ (by kernel_rfl)] at h; exact h
theorem laidH_mk (W : World) (h : laidMet Tryz.prog laidL W) : laidMetH Tryz.prog laidL W := by
  rw [MakeChecks.laidMetH_plain _ _ _ (by kernel_rfl)]; exact h

/-- A table that is listed is the table. -/
theorem tab_of_mem {W : World} {L : List (String × DataW Unit)} {name : String} {k : IntKind} {zs : List Int} {g : Nat} {t e : TypeId} {n : Nat} (h : laidMet Tryz.prog L W) (hm : (name, Lib.tabData k zs) ∈ L)
    (hg : Tryz.prog.globalNamed name = some g) (hty : (Tryz.prog.globals[g]?).map (·.type) = some t) (ht : Tryz.prog.underlying t = some (.array n e)) (he : Tryz.prog.underlying e = some (.int k)) (hce : Tryz.prog.cellsOf e = 1) (hct : Tryz.prog.cellsOf t = n) :
    Lib.TabIs Tryz.prog W name k zs := by
  obtain ⟨g', t', cs, fuel, p, hg', ht', hvar, hd⟩ := Lib.laidMet.reads h hm
  obtain rfl := Option.some.inj (hg.symm.trans hg')
  obtain rfl := Option.some.inj (hty.symm.trans ht')
  unfold Lib.TabIs
  rw [hvar, ← Lib.cells_of_tab ht he hce hct hd]
theorem powG : (Tryz.prog.globalNamed "internal/strconv.uint64pow10").isSome = true := by kernel_rfl
theorem powT : ((Tryz.prog.globalNamed "internal/strconv.uint64pow10").bind fun g => (Tryz.prog.globals[g]?).map (·.type)).map (fun t => (Tryz.prog.underlying t).map fun u => match u with | .array n e => (n, e == 22) | _ => (0, false)) = some (some (20, true)) := by kernel_rfl
theorem powC : ((Tryz.prog.globalNamed "internal/strconv.uint64pow10").bind fun g => (Tryz.prog.globals[g]?).map (·.type)).map (fun t => Tryz.prog.cellsOf t) = some 20 := by kernel_rfl
/-- What the rows' lists give. -/
theorem tabs_of {W : World} (h : laidMet Tryz.prog laidL W) : TabsAt W := by
  refine ⟨?_, laidL, h, by simp [laidL], by simp [laidL], by simp [laidL]⟩
  obtain ⟨g, hg⟩ := Option.isSome_iff_exists.1 powG
  have h1 := powT
  have h2 := powC
  rw [hg] at h1 h2
  simp only [Option.bind_some] at h1 h2
  obtain ⟨t, ht, h3⟩ := Option.map_eq_some_iff.1 h1
  rw [ht] at h2
  simp only [Option.map_some, Option.some.injEq] at h2
  obtain ⟨u, hu, h4⟩ := Option.map_eq_some_iff.1 h3
  cases u <;> simp at h4
  obtain ⟨rfl, rfl⟩ := h4
  refine tab_of_mem h (k := .u64) (zs := Lib.pow10Tab) (g := g) (t := t) ?_ hg ht hu Tryz.underlying22 (by kernel_rfl) h2
  have : (Lib.tabData IntKind.u64 Lib.pow10Tab : DataW Unit) = Rows.laid_internal_strconv_uint64pow10 := by kernel_rfl
  rw [this]; simp [laidL]
end Go.Proofs.YtlpbhfmhndhbkaaGreatDoor
