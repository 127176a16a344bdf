/- laws: rustSays, rustTold; the states of a law. -/
import Derived.Test.YtaeiclgdhchneaaGreatDoorY31
import Derived.Test.YtaeiclgdhchneaaGreatDoorY02
import Derived.Test.YtaeiclgdhchneaaGreatDoorY01
import Derived.Test.YtaeiclgdhchneaaGreatDoorCards
import Derived.Lay
import Derived.Lib.LaidU8
import Derived.Deep.DeepWitnessRowRef
import Derived.MakeChecks
import Derived.Test.YtaeiclgdhchneaaGreatDoorTie
import Derived.SevenTiedAt
import Derived.WideKeyArgs
import Derived.Carry
namespace Go.Proofs.YtaeiclgdhchneaaGreatDoor
open Go.RowKit

set_option maxHeartbeats 2000000 in
set_option maxRecDepth 100000 in
theorem rustSays_any (s txt : List UInt8) (h : ReadAs s txt) (B : Nat) (w : World) (hT : Tabs B w) (hB : B ≤ w.heap.size) :
    Calls Tryz.prog 16 #[.string (bs s), .string (bs txt)] w fun e w' => e = .returned (.bool true) ∧ Below w.heap.size w w' := by
  have HD := Lib.hid (told_any _ _ h B w hT hB)
  clear h hT hB
  go_enter Tryz.func16, Tryz.ntmps16
  go_wp2_with (go_at_call 31; refine HD.out.mono ?_)
  rintro e w1 ⟨rfl, b1⟩
  go_wp2
  go_ret
  refine ⟨?_, b1⟩
  first | rfl | simp

set_option maxHeartbeats 2000000 in
set_option maxRecDepth 100000 in
theorem rustTold_any (s txt : List UInt8) (h : ReadAs s txt) (B : Nat) (w : World) (hT : Tabs B w) (hB : B ≤ w.heap.size) :
    Calls Tryz.prog 20 #[.string (bs s)] w fun e w' => e = .returned (.tuple #[.string (bs txt), .bool true]) ∧ Below w.heap.size w w' := by
  have HD := Lib.hid (told_any _ _ h B w hT hB)
  clear h hT hB
  go_enter Tryz.func20, Tryz.ntmps20
  go_wp2_with (go_at_call 31; refine HD.out.mono ?_)
  rintro e w1 ⟨rfl, b1⟩
  go_wp2
  go_ret2
  refine ⟨?_, b1⟩
  first | rfl | simp

/-- What stays true as long as the blocks that lie there stay. -/
def Firm (P : World → Prop) : Prop := ∀ w w', P w → Below w.heap.size w w' → P w'
theorem firm_and {P Q : World → Prop} (h1 : Firm P) (h2 : Firm Q) : Firm fun w => P w ∧ Q w := fun w w' h b => ⟨h1 w w' h.1 b, h2 w w' h.2 b⟩
/-- A block that lies there. -/
def Blk (k : Nat) (cs : Array Value) (T : TypeId) (w : World) : Prop := w.heap[k]? = some (.cells cs T (0, 0))
theorem firm_blk (k : Nat) (cs : Array Value) (T : TypeId) : Firm (Blk k cs T) := fun _ _ h b => (b.block k (Array.getElem?_eq_some_iff.1 h).1).trans h
/-- A tree that lies there. -/
def Tre (M : Nat) (cs : Array Value) (t : RT) (w : World) : Prop := ∃ B, B ≤ w.heap.size ∧ TreeAt M B w cs t
theorem firm_tre (M : Nat) (cs : Array Value) (t : RT) : Firm (Tre M cs t) := fun _ _ ⟨B, h1, h2⟩ b => ⟨B, by have := b.size; omega, h2.mono (Nat.le_refl _) fun k hk => b.block k (by omega)⟩
theorem Tre.at {M : Nat} {cs : Array Value} {t : RT} {w : World} (h : Tre M cs t w) : TreeAt M w.heap.size w cs t := by
  obtain ⟨B, h1, h2⟩ := h; exact h2.mono h1 fun _ _ => rfl
theorem Tabs.upS {B B' : Nat} {w : World} (h : Tabs B w) (hB : B ≤ B') : Tabs B' w := by
  obtain ⟨W, h1, h2, h3⟩ := h; exact ⟨W, h1, by omega, h3⟩

/-- The worlds in which a law goes on that began in w0. -/
structure Sta (w0 : World) (P : World → Prop) (w : World) : Prop where
  tabs : Tabs w.heap.size w
  below : Below w0.heap.size w0 w
  keep : P w
theorem Sta.step {w0 w w' : World} {P : World → Prop} (h : Sta w0 P w) (f : Firm P) (b : Below w.heap.size w w') : Sta w0 P w' :=
  ⟨(h.tabs.same fun k hk => b.block k hk).upS b.size, h.below.trans (b.mono h.below.size), f _ _ h.keep b⟩
theorem Sta.start {B : Nat} {w : World} {P : World → Prop} (ht : Tabs B w) (hB : B ≤ w.heap.size) (hP : P w) : Sta w P w := ⟨ht.upS hB, Below.refl _ _, hP⟩
/-- One more block. -/
theorem Sta.alloc {w0 w : World} {P : World → Prop} (h : Sta w0 P w) (f : Firm P) (cs : Array Value) (T : TypeId) : Sta w0 (fun w' => P w' ∧ Blk w.heap.size cs T w') (w.alloc (.cells cs T)) := by
  have b : Below w.heap.size w (w.alloc (.cells cs T)) := (Below.refl _ _).alloc (Nat.le_refl _) _
  have h1 := h.step f b
  exact ⟨h1.tabs, h1.below, h1.keep, heap_alloc_new w _⟩
theorem Sta.drew {w0 w : World} {P : World → Prop} (h : Sta w0 P w) (f : Firm P) : Sta w0 P w.drew := h.step f (Below.refl _ _).drew

/-- A call that answers and leaves what lies there. -/
theorem Sta.call {w0 w : World} {P : World → Prop} {f : FuncId} {args : Array Value} {Q : Ending → Prop} (h : Sta w0 P w) (fp : Firm P) (c : Calls Tryz.prog f args w fun e w' => Q e ∧ Below w.heap.size w w') : Calls Tryz.prog f args w fun e w' => Q e ∧ Sta w0 P w' :=
  c.mono fun _ _ ⟨q, b⟩ => ⟨q, h.step fp b⟩
theorem Sta.callB {w0 w : World} {P : World → Prop} {f : FuncId} {args : Array Value} {Q : Prop} (h : Sta w0 P w) (fp : Firm P) (c : Calls Tryz.prog f args w fun e w' => ∃ bl : Bool, e = .returned (.bool bl) ∧ (bl = true → Q) ∧ Below w.heap.size w w') :
    Calls Tryz.prog f args w fun e w' => ∃ bl : Bool, e = .returned (.bool bl) ∧ (bl = true → Q) ∧ Sta w0 P w' :=
  c.mono fun _ _ ⟨bl, e, q, b⟩ => ⟨bl, e, q, h.step fp b⟩
theorem TreeAt.grow {M M' N : Nat} {w : World} {v : Array Value} {t : RT} (h : TreeAt M N w v t) (hM : M ≤ M') : TreeAt M' N w v t := by
  induction h with
  | mk kd c nm n fl a m cap V ks hn hk hc hnm hV _ ih => exact .mk kd c nm n fl a m cap V ks hn hk hc ⟨by omega, by omega⟩ hV ih
/-- A tree whose one kid lies in a block of its own. -/
theorem tree_one {M k : Nat} {w : World} {cs : Array Value} {t : RT} {T : TypeId} (hT : Tre M cs t w) (hb : Blk k cs T w) (kd : Int) (c : UInt8) (nm : List UInt8) (n : Nat) (fl : Bool) (hn : n < 18446744073709551616) (hl : nm.length ≤ M) (hM : 1 ≤ M) :
    TreeAt M w.heap.size w (rv kd c nm n fl (.slice (some ⟨k, 0, none⟩) 1 1)) (.mk kd c nm n fl [t]) := by
  refine .mk kd c nm n fl _ 1 1 (fun _ => cs) [t] hn rfl ⟨Nat.le_refl _, by decide⟩ ⟨hl, hM⟩ ?_ ?_
  · intro _
    refine ⟨k, 0, rfl, (Array.getElem?_eq_some_iff.1 hb).1, fun i hi => ?_⟩
    obtain rfl : i = 0 := by omega
    obtain ⟨kd, c, nm, n, fl, a, m, cap, rfl, _, _⟩ := hT.at.inv
    refine ⟨rfl, fun j _ => ?_⟩
    rw [cellAt hb]
    simp
  · intro i hi
    simp at hi
    subst hi
    exact hT.at
/-- A tree without kids. -/
theorem tree_leaf {M N : Nat} {w : World} (kd : Int) (c : UInt8) (nm : List UInt8) (n : Nat) (fl : Bool) (hn : n < 18446744073709551616) (hl : nm.length ≤ M) : TreeAt M N w (rv kd c nm n fl (.slice none 0 0)) (.mk kd c nm n fl []) :=
  .mk kd c nm n fl none 0 0 (fun _ => #[]) [] hn rfl ⟨Nat.le_refl _, Nat.zero_le _⟩ ⟨hl, Nat.zero_le _⟩ (fun h => absurd h (by omega)) (fun i h => absurd h (by simp))
/-- The cells of a tree that a block holds. -/
theorem Blk.cells {k : Nat} {kd : Int} {c : UInt8} {nm : List UInt8} {n : Nat} {fl : Bool} {ks : Value} {T : TypeId} {w : World} (h : Blk k (rv kd c nm n fl ks) T w) :
    w.cell? ⟨k, 0, none⟩ = some (.int .i64 kd) ∧ w.cell? ⟨k, 1, none⟩ = some (.int .u8 c.toNat) ∧ w.cell? ⟨k, 2, none⟩ = some (.string (bs nm)) ∧ w.cell? ⟨k, 3, none⟩ = some (.int .u64 n) ∧
      w.cell? ⟨k, 4, none⟩ = some (.bool fl) ∧ w.cell? ⟨k, 5, none⟩ = some ks := by
  refine ⟨?_, ?_, ?_, ?_, ?_, ?_⟩ <;> (rw [cellAt h]; rfl)
end Go.Proofs.YtaeiclgdhchneaaGreatDoor

/- A witness's world: the listed variables hold what the program's text lays. What the rows' lists give. -/
namespace Go.Proofs.YtaeiclgdhchneaaGreatDoor
open Go.ChangeShapes Go.WideShapes Go.ChangeAt Go.RowKit

theorem own : ownKnob Tryz.prog.godebug = none := by kernel_rfl

abbrev basicN : String := "loop.example/pub-g01453/pub/rustdemangle.rustBasicTypes"
/-- The seven lists. -/
def laidL : List (String × DataW Unit) := [("math/bits.deBruijn32tab", Rows.laid_math_bits_deBruijn32tab), ("math/bits.deBruijn64tab", Rows.laid_math_bits_deBruijn64tab), ("internal/strconv.uint64pow10", Rows.laid_internal_strconv_uint64pow10), ("unicode/utf8.acceptRanges", Rows.laid_unicode_utf8_acceptRanges), ("loop.example/pub-g01453/pub/rustdemangle.ErrNotMangledName", Rows.laid_loop_example_pub_g01453_pub_rustdemangle_ErrNotMangledName), (basicN, Rows.laid_loop_example_pub_g01453_pub_rustdemangle_rustBasicTypes), ("unicode/utf8.first", Rows.laid_unicode_utf8_first)]
def greatL : List String := ["math/bits.deBruijn32tab", "math/bits.deBruijn64tab", "internal/strconv.uint64pow10", "unicode/utf8.acceptRanges", "loop.example/pub-g01453/pub/rustdemangle.ErrNotMangledName", "unicode/utf8.first"]

/-- The entries of the table of basic types. -/
def basicEntries : Array MapEntry := ((List.range 21).map fun i => match ([(97, [105, 56]), (98, [98, 111, 111, 108]), (99, [99, 104, 97, 114]), (100, [102, 54, 52]), (101, [115, 116, 114]), (102, [102, 51, 50]), (104, [117, 56]), (105, [105, 115, 105, 122, 101]), (106, [117, 115, 105, 122, 101]), (108, [105, 51, 50]), (109, [117, 51, 50]), (110, [105, 49, 50, 56]), (111, [117, 49, 50, 56]), (112, [95]), (115, [105, 49, 54]), (116, [117, 49, 54]), (117, [40, 41]), (118, [46, 46, 46]), (120, [105, 54, 52]), (121, [117, 54, 52]), (122, [33])] : List (Int × List UInt8))[i]? with
  | some (k, s) => { key := .int .u8 k, val := .string ⟨s.toArray⟩, born := i }
  | none => { key := .int .u8 0, val := .string ⟨#[]⟩, born := i }).toArray
/-- The settled world with the table of basic types, in a block of its own. -/
noncomputable def w0 (os : Os) : World :=
  let h := World.holding Tryz.prog os ⟨#[.map basicEntries 21], #[], []⟩
  { h with heap := h.heap.modify ((Tryz.prog.globalNamed basicN).getD 0) fun
      | .cells _ t fr => .cells #[.map (some (h.heap.size - 1))] t fr
      | o => o }
/-- ... and with the other variables. -/
noncomputable def wit (os : Os) : World := (w0 os).layVars Tryz.prog (laidL.filter fun x => greatL.contains x.1)
theorem wit_os (os : Os) : (wit os).os = os := World.layVars_os _ _ _
noncomputable def blocksB : List Nat := [(Tryz.prog.globalNamed basicN).getD 0, (begin Tryz.prog (fun _ _ => 0) default).world.heap.size]

theorem wit_fits (os : Os) : (w0 os).layFits Tryz.prog (laidL.filter fun x => greatL.contains x.1) blocksB = true := by kernel_rfl
theorem wit_ifaces (os : Os) : (w0 os).layIfaces Tryz.prog (laidL.filter fun x => greatL.contains x.1) (wit os) = true := by kernel_rfl
theorem wit_map (os : Os) : LaidIn Tryz.prog (wit os) (laidL.filter fun x => !greatL.contains x.1) blocksB :=
  LaidIn.of_run blocksB 8 (by kernel_rfl) (by kernel_rfl) (by kernel_rfl) (by kernel_rfl)
theorem wit_met (os : Os) (args : Array Value) : laidMet Tryz.prog laidL ((wit os).forCall (fun _ _ => 0) ⟨#[], args, []⟩).memory := by
  have h : laidMet Tryz.prog laidL (wit os) := laidMet_layVars (w0 := w0 os) greatL blocksB rfl (wit_fits os) (wit_ifaces os) (wit_map os)
  exact h.of_heap (by simp [World.memory, World.forCall, Input.heap])
theorem plain_laidL (W : World) (h : laidMetH Tryz.prog laidL W) : laidMet Tryz.prog laidL W := by
  rw [MakeChecks.laidMetH_plain _ _ _ (by kernel_rfl)] at h; exact h
theorem laidH_mk (W : World) (h : laidMet Tryz.prog laidL W) : laidMetH Tryz.prog laidL W := by
  rw [MakeChecks.laidMetH_plain _ _ _ (by kernel_rfl)]; exact h

/-- A table that is listed is the table. -/
theorem tab_of_mem {W : World} {L : List (String × DataW Unit)} {name : String} {k : IntKind} {zs : List Int} {g : Nat} {t e : TypeId} {n : Nat} (h : laidMet Tryz.prog L W) (hm : (name, Lib.tabData k zs) ∈ L)
    (hg : Tryz.prog.globalNamed name = some g) (hty : (Tryz.prog.globals[g]?).map (·.type) = some t) (ht : Tryz.prog.underlying t = some (.array n e)) (he : Tryz.prog.underlying e = some (.int k)) (hce : Tryz.prog.cellsOf e = 1) (hct : Tryz.prog.cellsOf t = n) :
    Lib.TabIs Tryz.prog W name k zs := by
  obtain ⟨g', t', cs, fuel, p, hg', ht', hvar, hd⟩ := Lib.laidMet.reads h hm
  obtain rfl := Option.some.inj (hg.symm.trans hg')
  obtain rfl := Option.some.inj (hty.symm.trans ht')
  unfold Lib.TabIs
  rw [hvar, ← Lib.cells_of_tab ht he hce hct hd]
theorem powG : (Tryz.prog.globalNamed "internal/strconv.uint64pow10").isSome = true := by kernel_rfl
theorem powT : ((Tryz.prog.globalNamed "internal/strconv.uint64pow10").bind fun g => (Tryz.prog.globals[g]?).map (·.type)).map (fun t => (Tryz.prog.underlying t).map fun u => match u with | .array n e => (n, e == 22) | _ => (0, false)) = some (some (20, true)) := by kernel_rfl
theorem powC : ((Tryz.prog.globalNamed "internal/strconv.uint64pow10").bind fun g => (Tryz.prog.globals[g]?).map (·.type)).map (fun t => Tryz.prog.cellsOf t) = some 20 := by kernel_rfl
/-- What the rows' lists give. -/
theorem tabs_of {W : World} (h : laidMet Tryz.prog laidL W) : TabsAt W := by
  refine ⟨?_, laidL, h, by simp [laidL], by simp [laidL], by simp [laidL]⟩
  obtain ⟨g, hg⟩ := Option.isSome_iff_exists.1 powG
  have h1 := powT
  have h2 := powC
  rw [hg] at h1 h2
  simp only [Option.bind_some] at h1 h2
  obtain ⟨t, ht, h3⟩ := Option.map_eq_some_iff.1 h1
  rw [ht] at h2
  simp only [Option.map_some, Option.some.injEq] at h2
  obtain ⟨u, hu, h4⟩ := Option.map_eq_some_iff.1 h3
  cases u <;> simp at h4
  obtain ⟨rfl, rfl⟩ := h4
  refine tab_of_mem h (k := .u64) (zs := Lib.pow10Tab) (g := g) (t := t) ?_ hg ht hu Tryz.underlying22 (by kernel_rfl) h2
  have : (Lib.tabData IntKind.u64 Lib.pow10Tab : DataW Unit) = Rows.laid_internal_strconv_uint64pow10 := by kernel_rfl
  rw [this]; simp [laidL]
end Go.Proofs.YtaeiclgdhchneaaGreatDoor

/- From a call that returns true and leaves all that was there to a row's and a card's statement. -/
namespace Go.Proofs.YtaeiclgdhchneaaGreatDoor
open Go.ChangeShapes Go.WideShapes Go.ChangeAt Go.RowKit

theorem laidOut : laidOutB Tryz.prog = true := by kernel_rfl
/-- A type that can be read to its bottom. -/
noncomputable def okT (t : TypeId) : Bool := Tryz.prog.readableRec t && decide (t < Tryz.prog.types.size)

section
variable {H : Type} {enc : TypeId × Value → H} {W W' : World}
theorem trod_kept {t : TypeId} (ht : okT t = true) {n : Nat} {cs : List Value} {x : DataW H × List MemPlace} (h : DataW.trod enc Tryz.prog W 0 (fun _ => true) true n t cs = some x) (hb : Below W.heap.size W W') (hlt : ∀ p ∈ x.2, p.block < W.heap.size) :
    DataW.trod enc Tryz.prog W' 0 (fun b => decide (b < W.heap.size)) true n t cs = some x := by
  unfold okT at ht
  simp only [Bool.and_eq_true, decide_eq_true_eq] at ht
  exact DataW.trod_stays (kids_book laidOut ht.1) (book_sized ht.1) (fun h => by cases h) ⟨ht.2, book_self t⟩ h (fun p hp => hb.same (hlt p hp)) (fun p hp => by simpa using hlt p hp)
theorem args_kept : ∀ (ts : List TypeId) (vs : List Value) (ds : List (DataW H)) (ps : List MemPlace), DataW.TrodAll enc Tryz.prog W 0 (fun _ => true) true ts vs ds ps → (∀ t ∈ ts, okT t = true) → Below W.heap.size W W' → (∀ p ∈ ps, p.block < W.heap.size) →
    DataW.TrodAll enc Tryz.prog W' 0 (fun b => decide (b < W.heap.size)) true ts vs ds ps
  | [], [], [], _, h, _, _, _ => h
  | t :: ts, v :: vs, d :: ds, _, ⟨p, q, ⟨n, h1⟩, h2, e⟩, ht, hb, hlt => by
    subst e
    exact ⟨p, q, ⟨n, trod_kept (ht t (List.mem_cons_self ..)) h1 hb fun x hx => hlt x (List.mem_append_left _ hx)⟩, args_kept ts vs ds q h2 (fun t h => ht t (List.mem_cons_of_mem _ h)) hb (fun x hx => hlt x (List.mem_append_right _ hx)), rfl⟩
  | [], _ :: _, _, _, h, _, _, _ => h.elim
  | [], [], _ :: _, _, h, _, _, _ => h.elim
  | _ :: _, [], _, _, h, _, _, _ => h.elim
  | _ :: _, _ :: _, [], _, h, _, _, _ => h.elim
theorem vars_kept : ∀ (ns : List String) (gs : List (DataW H)) (ps : List MemPlace), DataW.TrodVars enc Tryz.prog W (fun _ => true) ns gs ps → (∀ n ∈ ns, ∀ g t, Tryz.prog.globalNamed n = some g → (Tryz.prog.globals[g]?).map (·.type) = some t → okT t = true) →
    Below W.heap.size W W' → (∀ p ∈ ps, p.block < W.heap.size) → DataW.TrodVars enc Tryz.prog W' (fun b => decide (b < W.heap.size)) ns gs ps
  | [], [], _, h, _, _, _ => h
  | n :: ns, d :: gs, _, ⟨g, t, cs, fuel, p, q, h1, h2, h3, h4, h5, e⟩, ht, hb, hlt => by
    subst e
    have hg : g < W.heap.size := by
      rcases Nat.lt_or_ge g W.heap.size with h | h
      · exact h
      · unfold World.var? at h3; rw [h1] at h3; simp [Array.getElem?_eq_none h] at h3
    refine ⟨g, t, cs, fuel, p, q, h1, h2, ?_, trod_kept (ht n (List.mem_cons_self ..) g t h1 h2) h4 hb fun x hx => hlt x (by simp [hx]), vars_kept ns gs q h5 (fun n h => ht n (List.mem_cons_of_mem _ h)) hb (fun x hx => hlt x (by simp [hx])), rfl⟩
    rw [← h3]
    unfold World.var?
    rw [h1]
    simp only [Option.bind_some, hb.block g hg]
  | [], _ :: _, _, h, _, _, _ => h.elim
  | _ :: _, [], _, h, _, _, _ => h.elim
end

theorem errT : (((Tryz.prog.globalNamed "loop.example/pub-g01453/pub/rustdemangle.ErrNotMangledName").bind fun g => (Tryz.prog.globals[g]?).map (·.type)).map okT) = some true := by kernel_rfl
theorem basT : (((Tryz.prog.globalNamed basicN).bind fun g => (Tryz.prog.globals[g]?).map (·.type)).map okT) = some true := by kernel_rfl
theorem names_ok : ∀ n ∈ (["loop.example/pub-g01453/pub/rustdemangle.ErrNotMangledName", basicN] : List String), ∀ g t, Tryz.prog.globalNamed n = some g → (Tryz.prog.globals[g]?).map (·.type) = some t → okT t = true := by
  intro n hn g t h1 h2
  simp only [List.mem_cons, List.not_mem_nil, or_false] at hn
  rcases hn with rfl | rfl
  · have := errT; rw [h1, Option.bind_some, h2] at this; simpa using this
  · have := basT; rw [h1, Option.bind_some, h2] at this; simpa using this

section
variable {H : Type} {enc : TypeId × Value → H} {W W' : World}
set_option maxRecDepth 100000 in
/-- A tree among the arguments, opened: whatever its size. -/
theorem arg_tree {r : Reach} {base : Nat} {v : Value} {d : DataW H} {p : List MemPlace} (hv : Value.okWide Tryz.prog W r base tTree v) (h : DataW.Trod enc Tryz.prog W 0 (fun _ => true) true tTree v d p) :
    ∃ cs t, v = .agg cs ∧ TreeAt maxLen W.heap.size W cs t := by
  obtain ⟨fs, hu, _⟩ := underTree
  obtain ⟨cs, rfl, _⟩ := okWide_struct hu hv
  obtain ⟨n, hn⟩ := h
  obtain ⟨t, ht⟩ := open_tree (M := maxLen) (Bk := fun _ => True) (fun _ _ _ _ => trivial) (fun l s _ h => ⟨h, fun _ _ => trivial⟩) (fun _ _ h => h) n _ _ hn trivial
  exact ⟨cs, t, rfl, by simpa [Value.cells] using ht⟩
/-- A law that returns true and writes only what is new. -/
theorem post_true {f : Func} {s : ChangeSpec} {args : Array Value} {ds gs : List (DataW H)} {before : List MemPlace}
    (hW : DataW.Whole enc Tryz.prog f.params.toList s.vars false W args.toList ds gs before) (hv : s.vars = ["loop.example/pub-g01453/pub/rustdemangle.ErrNotMangledName", basicN])
    (hs : s.fn H (ds ++ gs) = { results := [.lit (.bool true)], args := ds, vars := gs }) (hr : f.resultTypes = #[4]) (hp : ∀ t ∈ f.params.toList, okT t = true) (hb : Below W.heap.size W W') :
    s.post enc Tryz.prog f false true false false W args (.bool true) W' := by
  have hW' := hW
  obtain ⟨p, q, hA, hV, rfl, _, _⟩ := hW
  have hlt : ∀ x ∈ p ++ q, x.block < W.heap.size := fun x hx => by simpa using hW'.lt x hx
  refine ⟨ds, gs, p ++ q, [], p, q, hW', ?_, ?_, ?_, hb.frame _, fun h => by cases h⟩
  · rw [hs, hr]; exact trodAll_cons_mk (shut_bool Tryz.underlying4 _) trodAll_mk0
  · rw [hs]; exact args_kept _ _ _ _ hA hp hb fun x hx => hlt x (List.mem_append_left _ hx)
  · rw [hs]; rw [hv] at hV ⊢; exact vars_kept _ _ _ hV names_ok hb fun x hx => hlt x (List.mem_append_right _ hx)
end
end Go.Proofs.YtaeiclgdhchneaaGreatDoor

/- Arguments where what is read is of a bounded bulk. -/
namespace Go.Proofs.YtaeiclgdhchneaaGreatDoor
open Go.ChangeShapes Go.WideShapes Go.ChangeAt Go.RowKit

section
variable {H : Type} {enc : TypeId × Value → H} {W : World}
theorem bulk_one (d : DataW H) : 1 ≤ Rows.uptoBulk d := by
  cases d with
  | lit l => cases l <;> simp [Rows.uptoBulk]
  | nil => simp [Rows.uptoBulk]
  | ptr d => simp [Rows.uptoBulk]
  | slice elems spare => simp [Rows.uptoBulk]
  | agg parts => simp [Rows.uptoBulk]
  | iface t d => simp [Rows.uptoBulk]
  | map entries => simp [Rows.uptoBulk]
  | held h => simp [Rows.uptoBulk]
theorem bulk_part {d : DataW H} {l : List (DataW H)} (h : d ∈ l) : Rows.uptoBulk d ≤ Rows.uptoBulkAll l := by
  induction l with
  | nil => cases h
  | cons x r ih =>
    simp only [Rows.uptoBulkAll]
    rcases List.mem_cons.1 h with e | e
    · subst e; omega
    · have := ih e; omega
theorem bulk_len (l : List (DataW H)) : l.length ≤ Rows.uptoBulkAll l := by
  induction l with
  | nil => simp [Rows.uptoBulkAll]
  | cons x r ih => have := bulk_one x; simp only [Rows.uptoBulkAll, List.length_cons]; omega
theorem bulk_parts {l : List (DataW H)} (hk : Rows.uptoSmall H l = true) : ∀ d ∈ l, Rows.uptoBulk d ≤ 1048576 := by
  have : Rows.uptoBulkAll l ≤ 1048576 := by simpa [Rows.uptoSmall] using hk
  exact fun d hd => Nat.le_trans (bulk_part hd) this
theorem two_vars {gs : List (DataW H)} {ps : List MemPlace} {a b : String} (h : DataW.TrodVars enc Tryz.prog W (fun _ => true) [a, b] gs ps) : ∃ g1 g2, gs = [g1, g2] := by
  obtain ⟨g1, gs1, rfl⟩ : ∃ g1 gs1, gs = g1 :: gs1 := by cases gs with | nil => exact h.elim | cons a l => exact ⟨a, l, rfl⟩
  obtain ⟨_, _, _, _, _, _, _, _, _, _, h, _⟩ := h
  obtain ⟨g2, gs2, rfl⟩ : ∃ g2 gs2, gs1 = g2 :: gs2 := by cases gs1 with | nil => exact h.elim | cons a l => exact ⟨a, l, rfl⟩
  obtain ⟨_, _, _, _, _, _, _, _, _, _, h, _⟩ := h
  cases gs2 with
  | nil => exact ⟨g1, g2, rfl⟩
  | cons a l => exact h.elim

set_option maxRecDepth 100000 in
theorem tree_small {fuel : Nat} {cs : List Value} {x : DataW H × List MemPlace} (h : DataW.trod enc Tryz.prog W 0 (fun _ => true) true fuel tTree cs = some x) (hb : Rows.uptoBulk x.1 ≤ 1048576) : ∃ t, TreeAt 1048576 W.heap.size W cs.toArray t := by
  refine open_tree (M := 1048576) (Bk := fun d => Rows.uptoBulk d ≤ 1048576) ?_ ?_ ?_ fuel cs x h hb
  · intro l hl d hd
    simp only [Rows.uptoBulk] at hl
    have := bulk_part hd; omega
  · intro l s hl _
    simp only [Rows.uptoBulk] at hl
    have := bulk_len l
    exact ⟨by omega, fun d hd => by have := bulk_part hd; omega⟩
  · intro l hl _
    simp only [Rows.uptoBulk] at hl
    omega
set_option maxRecDepth 100000 in
/-- A tree among the arguments, opened. -/
theorem arg_treeU {r : Reach} {base : Nat} {v : Value} {d : DataW H} {p : List MemPlace} (hv : Value.okWide Tryz.prog W r base tTree v) (h : DataW.Trod enc Tryz.prog W 0 (fun _ => true) true tTree v d p) (hb : Rows.uptoBulk d ≤ 1048576) :
    ∃ cs t, v = .agg cs ∧ TreeAt 1048576 W.heap.size W cs t := by
  obtain ⟨fs, hu, _⟩ := underTree
  obtain ⟨cs, rfl, _⟩ := okWide_struct hu hv
  obtain ⟨n, hn⟩ := h
  obtain ⟨t, ht⟩ := tree_small hn hb
  exact ⟨cs, t, rfl, by simpa [Value.cells] using ht⟩
end
end Go.Proofs.YtaeiclgdhchneaaGreatDoor

/- A list of trees among the arguments, where what is read is of a bounded bulk. -/
namespace Go.Proofs.YtaeiclgdhchneaaGreatDoor
open Go.ChangeShapes Go.WideShapes Go.ChangeAt Go.RowKit

/-- A list of trees, as a slice holds it. -/
structure ListAt (M B : Nat) (w : World) (a : Option Addr) (m cap : Nat) (V : Nat → Array Value) (ts : List RT) : Prop where
  len : ts.length = m
  cap : m ≤ cap ∧ cap ≤ maxLen
  le : m ≤ M
  kids : KidsIn B w a m V
  tree : ∀ i (h : i < ts.length), TreeAt M B w (V i) ts[i]
theorem ListAt.mono {M B B' : Nat} {w w' : World} {a : Option Addr} {m cap : Nat} {V : Nat → Array Value} {ts : List RT} (h : ListAt M B w a m cap V ts) (hB : B ≤ B') (hw : ∀ k, k < B → w'.heap[k]? = w.heap[k]?) : ListAt M B' w' a m cap V ts :=
  ⟨h.len, h.cap, h.le, h.kids.mono hB hw, fun i hi => (h.tree i hi).mono hB hw⟩

section
variable {H : Type} {enc : TypeId × Value → H} {W : World}
set_option maxRecDepth 100000 in
/-- A list of trees among the arguments, opened. -/
theorem arg_listU {r : Reach} {base : Nat} {v : Value} {d : DataW H} {p : List MemPlace} (hv : Value.okWide Tryz.prog W r base tTrees v) (h : DataW.Trod enc Tryz.prog W 0 (fun _ => true) true tTrees v d p) (hb : Rows.uptoBulk d ≤ 1048576) :
    ∃ a m cap V ts, v = .slice a m cap ∧ ListAt 1048576 W.heap.size W a m cap V ts := by
  obtain ⟨a0, m0, c0, rfl⟩ := okWide_slice Tryz.underlying23 hv
  obtain ⟨n, hn⟩ := h
  have hn' : DataW.trod enc Tryz.prog W 0 (fun _ => true) true n tTrees [.slice a0 m0 c0] = some (d, p) := by simpa [Value.cells] using hn
  rcases DataW.trod_slice Tryz.underlying23 hn' with ⟨e5, _⟩ | ⟨a, len, cap, elems, rest, n', rfl, e5, x5, _, hl, hm, hel, hE, _, _⟩
  · simp only [List.cons.injEq, and_true] at e5
    obtain ⟨rfl, rfl, rfl⟩ : a0 = none ∧ m0 = 0 ∧ c0 = 0 := by simpa using e5
    exact ⟨none, 0, 0, fun _ => #[], [], rfl, rfl, ⟨Nat.le_refl _, Nat.zero_le _⟩, Nat.zero_le _, fun h => absurd h (by omega), fun i h => absurd h (by simp)⟩
  · simp only [List.cons.injEq, and_true] at e5
    obtain ⟨rfl, rfl, rfl⟩ : a0 = some a ∧ m0 = len ∧ c0 = cap := by simpa using e5
    obtain ⟨hd, hp⟩ := Prod.mk.inj x5
    rw [hd] at hb
    simp only [Rows.uptoBulk] at hb
    have hbl := bulk_len (elems.map fun x => x.fst)
    rw [List.length_map, hel] at hbl
    have hk : ∀ i, i < m0 → ∃ cs', W.cells? 0 (a.add (i * 6)) 6 = some cs' ∧ ∃ t, TreeAt 1048576 W.heap.size W cs'.toArray t := by
      intro i hi
      have := hE i hi
      rw [List.getElem?_eq_getElem (by omega), cellsTree] at this
      obtain ⟨cs', h1, h2⟩ := Option.bind_eq_some_iff.1 this
      have hbi := bulk_part (List.mem_map_of_mem (f := fun x => x.fst) (List.getElem_mem (l := elems) (n := i) (by omega)))
      exact ⟨cs', h1, tree_small h2 (by omega)⟩
    obtain ⟨V, hV⟩ := Go.Deep.choose_lt (α := List Value) (p := fun i cs' => W.cells? 0 (a.add (i * 6)) 6 = some cs' ∧ ∃ t, TreeAt 1048576 W.heap.size W cs'.toArray t) hk
    obtain ⟨T, hT⟩ := Go.Deep.choose_lt (α := RT) (p := fun i t => TreeAt 1048576 W.heap.size W (V i).toArray t) (fun i hi => (hV i hi).2)
    refine ⟨some a, m0, c0, fun i => (V i).toArray, (List.range m0).map T, rfl, by simp, ⟨hl, hm⟩, by omega, ?_, ?_⟩
    · intro h0
      obtain ⟨b, off, spot⟩ := a
      have hcell := fun i hi => World.cells?_some (hV i hi).1
      have hspot : spot = none := by
        obtain ⟨_, hl6, hc6⟩ := hcell 0 h0
        have := hc6 0 (by omega)
        rw [List.getElem?_eq_getElem (by omega), Nat.zero_mul] at this
        exact World.cell?_spot (a := ⟨b, off, spot⟩) this
      subst hspot
      refine ⟨b, off, rfl, ?_, fun i hi => ?_⟩
      · obtain ⟨_, hl6, hc6⟩ := hcell 0 h0
        have := hc6 0 (by omega)
        rw [List.getElem?_eq_getElem (by omega), Nat.zero_mul] at this
        exact cell_lt (a := ⟨b, off, none⟩) this
      · obtain ⟨_, hl6, hc6⟩ := hcell i hi
        refine ⟨by simpa using hl6, fun j hj => ?_⟩
        have := hc6 j (by omega)
        rw [WideShapes.add_plain, WideShapes.add_plain] at this
        simpa using this
    · intro i hi
      simp at hi ⊢
      exact hT i hi
end
end Go.Proofs.YtaeiclgdhchneaaGreatDoor

/- laws: rustTypes, rustPieces, rustListed. -/
namespace Go.Proofs.YtaeiclgdhchneaaGreatDoor
open Go.RowKit

theorem firm_true : Firm fun _ => True := fun _ _ _ _ => trivial
/-- The worlds between two calls that leave what lies there. -/
abbrev Sta0 (w0 : World) (w : World) : Prop := Sta w0 (fun _ => True) w
theorem Sta.same {w0 w : World} {P : World → Prop} (h : Sta w0 P w) (k : Nat) (hk : k < w0.heap.size) : w.heap[k]? = w0.heap[k]? := h.below.block k hk
theorem Sta0.alloc {w0 w : World} (h : Sta0 w0 w) (o : Obj) : Sta0 w0 (w.alloc o) := h.step firm_true ((Below.refl _ _).alloc (Nat.le_refl _) o)
theorem Sta0.go {w0 w w' : World} (h : Sta0 w0 w) (b : Below w.heap.size w w') : Sta0 w0 w' := h.step firm_true b
/-- A list of trees that lies there. -/
def Lis (M : Nat) (a : Option Addr) (m cap : Nat) (V : Nat → Array Value) (ts : List RT) (w : World) : Prop := ∃ B, B ≤ w.heap.size ∧ ListAt M B w a m cap V ts
theorem firm_lis (M : Nat) (a : Option Addr) (m cap : Nat) (V : Nat → Array Value) (ts : List RT) : Firm (Lis M a m cap V ts) := fun _ _ ⟨B, h1, h2⟩ b => ⟨B, by have := b.size; omega, h2.mono (Nat.le_refl _) fun k hk => b.block k (by omega)⟩
theorem Lis.at {M : Nat} {a : Option Addr} {m cap : Nat} {V : Nat → Array Value} {ts : List RT} {w : World} (h : Lis M a m cap V ts w) : ListAt M w.heap.size w a m cap V ts := by
  obtain ⟨B, h1, h2⟩ := h; exact h2.mono h1 fun _ _ => rfl
theorem pieces_snoc (ts : List RT) (t : RT) : pieces (ts ++ [t]) = pieces ts ++ pieceOf t := by simp [pieces]
theorem tells_snoc (ts : List RT) (t : RT) : tells (ts ++ [t]) = tells ts ++ [tell t] := by simp [tells]

set_option maxHeartbeats 2000000 in
set_option maxRecDepth 100000 in
theorem types_any {M B m cap : Nat} {a : Option Addr} {V : Nat → Array Value} {ts : List RT} (hM : M ≤ 2147483647) (w : World) (ht : Tabs B w) (hB : B ≤ w.heap.size) (hL : ListAt M B w a m cap V ts) :
    Calls Tryz.prog 25 #[.slice a m cap] w fun e w' => ∃ bl : Bool, e = .returned (.bool bl) ∧ (bl = true → (∀ t ∈ ts, FitT t) ∧ ts.length ≤ 8) ∧ Below w.heap.size w w' := by
  have HS := Lib.hid (Sta.start ht hB trivial : Sta0 w w)
  have HL := Lib.hid (hL.mono hB fun _ _ => rfl : ListAt M w.heap.size w a m cap V ts)
  have HK := Lib.hid (fun i h => kid_of HL.out.len HL.out.kids HL.out.tree i h)
  have hk := hL.len
  have hm := hL.le
  have hmx : m ≤ 9223372036854775807 := by omega
  have HM := Lib.hid hM
  clear hL ht hB hM
  go_enter Tryz.func25, Tryz.ntmps25
  go_wp2_with fail
  go_loopg [4, 7] m (fun n _ i wr => ∃ j : Nat, n = m - j ∧ j ≤ m ∧ i = .int .i64 j ∧ (∀ t ∈ ts.take j, FitT t) ∧ Sta0 w wr)
  case atStart => exact ⟨0, by omega, Nat.zero_le _, rfl, by simp, HS.out⟩
  case round =>
    obtain ⟨j, rfl, hj, rfl, hq, S⟩ := hrel
    by_cases hlt : j < m
    · obtain ⟨kb, off, kd1, c1, nm1, n1, fl1, ka1, km1, kc1, rfl, K⟩ := HK.out j (by omega)
      have K1 := K.keep S.same
      obtain ⟨_, k0, k1, k2, k3, k4, k5, _⟩ := K1
      have S1 := Sta0.alloc S (.cells (rv kd1 c1 nm1 n1 fl1 (.slice ka1 km1 kc1)) tRu)
      have HC := Lib.hid (fitsType_any ts[j] kd1 c1 nm1 n1 fl1 (.slice ka1 km1 kc1) HM.out _ _ S1.tabs (Nat.le_refl _) ((K.keep S1.same).tr.mono S1.below.size fun _ _ => rfl))
      have HS1 := Lib.hid S1
      have HQ := Lib.hid hq
      clear S1 S K hq
      go_wp2_with fail
      refine HC.out.mono ?_
      rintro e w1 ⟨bl, rfl, hb, kk⟩
      have S2 := Sta0.go HS1.out kk
      clear kk HC
      cases bl with
      | false =>
        clear hb
        go_wp2
        go_ret
        exact ⟨false, rfl, fun h => absurd h (by decide), S2.below⟩
      | true =>
        have HQ1 := Lib.hid (hb rfl)
        clear hb
        go_wp2_with fail
        go_roundg (m - (j + 1))
        case measure => omega
        case rel =>
          refine ⟨j + 1, rfl, by omega, by go_num, ?_, S2⟩
          intro x hx
          rw [List.take_succ_eq_append_getElem (by omega)] at hx
          rcases List.mem_append.1 hx with hx | hx
          · exact HQ.out x hx
          · simp at hx; subst hx; exact HQ1.out
    · have hjm : j = m := by omega
      subst hjm
      have HQ := Lib.hid hq
      have HSS := Lib.hid S
      clear hq S
      by_cases h8 : j ≤ 8
      · have d8 : decide ((j : Int) ≤ 8) = true := by simp; omega
        go_wp2_with fail
        go_ret
        refine ⟨true, by simp, fun _ => ⟨?_, by omega⟩, HSS.out.below⟩
        have := HQ.out
        rwa [← hk, List.take_length] at this
      · have d8 : decide ((j : Int) ≤ 8) = false := by simp; omega
        go_wp2_with fail
        go_ret
        exact ⟨false, by simp, fun h => absurd h (by decide), HSS.out.below⟩

set_option maxHeartbeats 2000000 in
set_option maxRecDepth 100000 in
theorem pieces_any {M B m cap : Nat} {a : Option Addr} {V : Nat → Array Value} {ts : List RT} (w : World) (ht : Tabs B w) (hB : B ≤ w.heap.size) (hL : ListAt M B w a m cap V ts) (hf : ∀ t ∈ ts, FitT t) (h8 : ts.length ≤ 8) :
    Calls Tryz.prog 28 #[.slice a m cap] w fun e w' => e = .returned (.string (bs (pieces ts))) ∧ Below w.heap.size w w' := by
  have HS := Lib.hid (Sta.start ht hB trivial : Sta0 w w)
  have HL := Lib.hid (hL.mono hB fun _ _ => rfl : ListAt M w.heap.size w a m cap V ts)
  have HK := Lib.hid (fun i h => kid_of HL.out.len HL.out.kids HL.out.tree i h)
  have hk := hL.len
  have hm := hL.le
  have hmx : m ≤ 9223372036854775807 := by omega
  have HF := Lib.hid (fun j (h : j < ts.length) => hf ts[j] (List.getElem_mem h))
  have HP := Lib.hid (fun j => (by have h1 := pieces_len (ts.take j) (fun t ht => hf t (List.mem_of_mem_take ht)); have h2 : (ts.take j).length ≤ 8 := by simp; omega
                                   omega : (pieces (ts.take j)).length ≤ 2640000))
  clear hL ht hB hf
  go_enter Tryz.func28, Tryz.ntmps28
  go_wp2_with fail
  go_loopg [3, 5, 8] m (fun n o _ i wr => ∃ j : Nat, n = m - j ∧ j ≤ m ∧ i = .int .i64 j ∧ o = .string (bs (pieces (ts.take j))) ∧ Sta0 w wr)
  case atStart => exact ⟨0, by omega, Nat.zero_le _, rfl, rfl, HS.out⟩
  case round =>
    obtain ⟨j, rfl, hj, rfl, rfl, S⟩ := hrel
    by_cases hlt : j < m
    · obtain ⟨kb, off, kd1, c1, nm1, n1, fl1, ka1, km1, kc1, rfl, K⟩ := HK.out j (by omega)
      have K1 := K.keep S.same
      obtain ⟨_, k0, k1, k2, k3, k4, k5, _⟩ := K1
      have S1 := Sta0.alloc S (.cells (rv kd1 c1 nm1 n1 fl1 (.slice ka1 km1 kc1)) tRu)
      have ft := HF.out j (by omega)
      have HC := Lib.hid (piece_text ts[j] (by omega : 0 ≤ 20) ft.rt ft.kd ft.sz kd1 c1 nm1 n1 fl1 (.slice ka1 km1 kc1) _ _ S1.tabs (Nat.le_refl _) ((K.keep S1.same).tr.mono S1.below.size fun _ _ => rfl))
      have HS1 := Lib.hid S1
      have hp := HP.out j
      have hl := ft.len
      have e1 : pieces (ts.take (j + 1)) = pieces (ts.take j) ++ pieceOf ts[j] := by rw [List.take_succ_eq_append_getElem (by omega), pieces_snoc]
      have E1 := Lib.hid (show bs (pieces (ts.take j)) ++ bs (pieceOf ts[j]) = bs (pieces (ts.take (j + 1))) by rw [e1]; exact bs_append _ _)
      have hov : ¬ 9223372036854775807 < (pieces (ts.take j)).length + (pieceOf ts[j]).length := by omega
      clear S1 S K ft e1
      go_wp2_with fail
      refine HC.out.mono ?_
      rintro e w1 ⟨rfl, kk⟩
      have S2 := Sta0.go HS1.out kk
      clear kk HC
      go_wp2_with fail
      go_roundg (m - (j + 1))
      case measure => omega
      case rel => exact ⟨j + 1, rfl, by omega, by go_num, congrArg Value.string E1.out, S2⟩
    · have hjm : j = m := by omega
      subst hjm
      have HSS := Lib.hid S
      clear S
      go_wp2_with fail
      go_ret
      refine ⟨?_, HSS.out.below⟩
      rw [← hk, List.take_length]
      rfl

set_option maxHeartbeats 4000000 in
set_option maxRecDepth 100000 in
theorem listed_any {M B m cap : Nat} {a : Option Addr} {V : Nat → Array Value} {ts : List RT} (w : World) (ht : Tabs B w) (hB : B ≤ w.heap.size) (hL : ListAt M B w a m cap V ts) (hf : ∀ t ∈ ts, FitT t) (h8 : ts.length ≤ 8) :
    Calls Tryz.prog 26 #[.slice a m cap] w fun e w' => e = .returned (.tuple #[.string (bs (joined [44, 32] (tells ts))), .bool true]) ∧ Below w.heap.size w w' := by
  have HS := Lib.hid (Sta.start ht hB trivial : Sta0 w w)
  have HL := Lib.hid (hL.mono hB fun _ _ => rfl : ListAt M w.heap.size w a m cap V ts)
  have HK := Lib.hid (fun i h => kid_of HL.out.len HL.out.kids HL.out.tree i h)
  have hk := hL.len
  have hm := hL.le
  have hmx : m ≤ 9223372036854775807 := by omega
  have HF := Lib.hid (fun j (h : j < ts.length) => hf ts[j] (List.getElem_mem h))
  have HP := Lib.hid (fun j => (by have h1 := tells_joined (ts.take j) (fun t ht => hf t (List.mem_of_mem_take ht)); have h2 : (ts.take j).length ≤ 8 := by simp; omega
                                   omega : (joined [44, 32] (tells (ts.take j))).length ≤ 2880016))
  clear hL ht hB hf
  go_enter Tryz.func26, Tryz.ntmps26
  go_wp2_with fail
  go_loopg [4, 5, 6, 7, 8, 11] m (fun n o _ _ _ _ i wr => ∃ j : Nat, n = m - j ∧ j ≤ m ∧ i = .int .i64 j ∧ o = .string (bs (joined [44, 32] (tells (ts.take j)))) ∧ Sta0 w wr)
  case atStart => exact ⟨0, by omega, Nat.zero_le _, rfl, rfl, HS.out⟩
  case round =>
    obtain ⟨j, rfl, hj, rfl, rfl, S⟩ := hrel
    by_cases hlt : j < m
    · obtain ⟨kb, off, kd1, c1, nm1, n1, fl1, ka1, km1, kc1, rfl, K⟩ := HK.out j (by omega)
      have K1 := K.keep S.same
      obtain ⟨_, k0, k1, k2, k3, k4, k5, _⟩ := K1
      have S1 := Sta0.alloc S (.cells (rv kd1 c1 nm1 n1 fl1 (.slice ka1 km1 kc1)) tRu)
      have ft := HF.out j (by omega)
      have HC := Lib.hid (piece_text ts[j] (by omega : 0 ≤ 20) ft.rt ft.kd ft.sz kd1 c1 nm1 n1 fl1 (.slice ka1 km1 kc1) _ _ S1.tabs (Nat.le_refl _) ((K.keep S1.same).tr.mono S1.below.size fun _ _ => rfl))
      have HA := Lib.hid (fun w' (h : Sta0 w w') => argument_any (pieceOf ts[j]) (tell ts[j]) (by have := ft.len; omega) (by have := ft.tlen; omega) ft.read _ w' h.tabs (Nat.le_refl _))
      have HS1 := Lib.hid S1
      have hp := HP.out j
      have hl := ft.len
      have hl2 := ft.tlen
      have e1 : joined [44, 32] (tells (ts.take (j + 1))) = if j = 0 then tell ts[j] else joined [44, 32] (tells (ts.take j)) ++ ([44, 32] ++ tell ts[j]) := by
        rw [List.take_succ_eq_append_getElem (by omega), tells_snoc, joined_snoc]
        have : tells (ts.take j) = [] ↔ j = 0 := by
          rw [← List.length_eq_zero_iff, tells_len, List.length_take]; omega
        simp only [this]
      have E0 := Lib.hid e1
      clear S1 S K ft e1
      go_wp2_with fail
      refine HC.out.mono ?_
      rintro e w1 ⟨rfl, kk⟩
      have S2 := Lib.hid (Sta0.go HS1.out kk)
      clear kk HC
      go_wp2_with fail
      refine (HA.out _ S2.out).mono ?_
      rintro e w2 ⟨rfl, kk⟩
      have S3 := Lib.hid (Sta0.go S2.out kk)
      clear kk HA
      by_cases h0 : j = 0
      · subst h0
        have E1 := Lib.hid (show bs (joined [44, 32] (tells (ts.take 0))) ++ bs (tell ts[0]) = bs (joined [44, 32] (tells (ts.take (0 + 1)))) by
          rw [E0.out, if_pos rfl, bs_append]; simp [tells, joined])
        have hov : ¬ 9223372036854775807 < (joined [44, 32] (tells (ts.take 0))).length + (tell ts[0]).length := by omega
        go_wp2_with fail
        go_roundg (m - (0 + 1))
        case measure => omega
        case rel => exact ⟨0 + 1, rfl, by omega, by go_num, congrArg Value.string E1.out, S3.out⟩
      · obtain ⟨x1, hx1⟩ : ∃ x1, x1 = joined [44, 32] (tells (ts.take j)) ++ [44, 32] := ⟨_, rfl⟩
        have E1 : bs (joined [44, 32] (tells (ts.take j))) ++ (⟨#[44, 32]⟩ : ByteArray) = bs x1 := by rw [hx1, show (⟨#[44, 32]⟩ : ByteArray) = bs [44, 32] from rfl, bs_append]
        have E2 := Lib.hid (show bs x1 ++ bs (tell ts[j]) = bs (joined [44, 32] (tells (ts.take (j + 1)))) by
          rw [E0.out, if_neg h0, hx1, bs_append]; simp)
        have hov1 : ¬ 9223372036854775807 < (joined [44, 32] (tells (ts.take j))).length + 2 := by omega
        have hov2 : ¬ 9223372036854775807 < x1.length + (tell ts[j]).length := by rw [hx1]; simp; omega
        have d0 : decide ((0 : Int) < (j : Int)) = true := by simp; omega
        have d1 : decide ((j : Int) > 0) = true := by simp; omega
        clear hx1
        go_wp2_with fail
        go_roundg (m - (j + 1))
        case measure => omega
        case rel => exact ⟨j + 1, rfl, by omega, by go_num, congrArg Value.string E2.out, S3.out⟩
    · have hjm : j = m := by omega
      subst hjm
      have HSS := Lib.hid S
      clear S
      go_wp2_with fail
      go_ret2
      refine ⟨?_, HSS.out.below⟩
      rw [← hk, List.take_length]
      rfl
end Go.Proofs.YtaeiclgdhchneaaGreatDoor

