/- The memory of the reference's writer. -/
import Derived.Test.YtlpbhfmhndhbkaaGreatDoorBase2
namespace Go.Proofs.YtlpbhfmhndhbkaaGreatDoor
open Go.RowKit

/-- Blocks of the kinds M alone are written, from B on. -/
structure KeptM (M : List TypeId) (B : Nat) (w w' : World) : Prop where
  os : w'.os = w.os
  tape : w'.tape = w.tape
  output : w'.output = w.output
  size : w.heap.size ≤ w'.heap.size
  block : ∀ k, k < w.heap.size → (k < B ∨ ∀ t ∈ M, kindOf w.heap[k]? ≠ some t) → w'.heap[k]? = w.heap[k]?

section
variable {M : List TypeId} {B : Nat}
theorem KeptM.refl (w : World) : KeptM M B w w := ⟨rfl, rfl, rfl, Nat.le_refl _, fun _ _ _ => rfl⟩
theorem KeptM.trans {a b c : World} (h : KeptM M B a b) (k : KeptM M B b c) : KeptM M B a c :=
  ⟨k.os.trans h.os, k.tape.trans h.tape, k.output.trans h.output, Nat.le_trans h.size k.size,
   fun i hi hc => (k.block i (Nat.lt_of_lt_of_le hi h.size) (by rw [h.block i hi hc]; exact hc)).trans (h.block i hi hc)⟩
theorem KeptM.drewN {a w : World} (h : KeptM M B a w) (n : Nat) : KeptM M B a (w.drewN n) := ⟨h.os, h.tape, h.output, h.size, h.block⟩
theorem KeptM.alloc {a w : World} (h : KeptM M B a w) (o : Obj) : KeptM M B a (w.alloc o) :=
  h.trans ⟨rfl, rfl, rfl, by simp, fun k hk _ => Below.heap_alloc _ _ _ hk⟩
theorem KeptM.setCell {a w : World} (h : KeptM M B a w) {p : Addr} (hB : B ≤ p.block) {t : TypeId} (ht : t ∈ M) (hk : kindOf w.heap[p.block]? = some t) (u : Value) : KeptM M B a (w.setCell p u) :=
  h.trans ⟨rfl, rfl, rfl, by simp [World.setCell], fun k _ hc => Below.heap_setCell _ _ _ _ (fun e => by
    rcases hc with hc | hc
    · omega
    · exact hc t ht (by rw [e]; exact hk))⟩
theorem KeptM.grown {a w w' : World} {row : Option Nat} (h : KeptM M B a w) (hg : w.grownBy w' row) {t : TypeId} (ht : t ∈ M)
    (hr : ∀ k, row = some k → B ≤ k ∧ kindOf w.heap[k]? = some t) : KeptM M B a w' :=
  h.trans ⟨hg.os, hg.tape, hg.output, hg.size,
    fun k hk hc => hg.block k hk (fun e => by
      have := hr k e.symm
      rcases hc with hc | hc
      · omega
      · exact hc t ht this.2)⟩
theorem KeptM.below {w w' : World} (h : KeptM M B w w') (hB : B ≤ w.heap.size) : Below B w w' :=
  ⟨h.os, h.tape, h.output, h.size, fun k hk => h.block k (by omega) (.inl hk)⟩
theorem KeptM.of_below {w w' : World} (h : Below w.heap.size w w') : KeptM M B w w' :=
  ⟨h.os, h.tape, h.output, h.size, fun k hk _ => h.block k hk⟩
end

abbrev tW : TypeId := 46
abbrev tStr : TypeId := 9
abbrev tInt : TypeId := 3
abbrev tBd : TypeId := 107
abbrev tRu : TypeId := 25
abbrev MW : List TypeId := [tW, tB, tStr, tInt, tBd]

/-- The kind of the row that a value owns. -/
theorem rowKind {w : World} {B size : Nat} {e : TypeId} {v : Value} {n : Nat} {xs : List Value} (h : w.ownsRow B e size v n xs) : ∀ k, v.ownBlock = some k → B ≤ k ∧ kindOf w.heap[k]? = some e := by
  intro k hk
  refine ⟨(h.lt k hk).1, ?_⟩
  rcases h.2 with ⟨rfl, _⟩ | ⟨g, cap, cur, rfl, _, hg, _⟩
  · simp [Value.ownBlock] at hk
  · simp only [Value.ownBlock, Option.some.injEq] at hk
    subst hk
    rw [hg]; rfl
/-- An owned row stays where another kind of row is written. -/
theorem rowKept {w w' : World} {B size : Nat} {e e' : TypeId} {v : Value} {n : Nat} {xs : List Value} {row : Option Nat} (h : w.ownsRow B e size v n xs) (hg : w.grownBy w' row) (hne : e ≠ e')
    (hr : ∀ k, row = some k → kindOf w.heap[k]? = some e') : w'.ownsRow B e size v n xs := by
  refine h.kept hg ?_
  cases hv : v.ownBlock with
  | none => exact .inl rfl
  | some k =>
    refine .inr fun e1 => hne ?_
    have h1 := (rowKind h k hv).2
    have h2 := hr k e1.symm
    rw [h1] at h2
    exact Option.some.inj h2
theorem grown_setCell (w : World) (p : Addr) (u : Value) : w.grownBy (w.setCell p u) (some p.block) :=
  ⟨rfl, rfl, rfl, by simp [World.setCell], fun k _ hk => Below.heap_setCell _ _ _ _ (fun e => hk (by simp [e]))⟩

/-- What a writer holds (of its texts and marks only how many). -/
structure WR where
  out : List UInt8
  plain : Bool
  empty : Bool
  bound : Nat
  bounds : List (Nat × Nat)
  cnt : Nat

def bdv (l : List (Nat × Nat)) : List Value := l.flatMap fun p => [.int .i64 p.1, .int .i64 p.2]

def WR.cs (r : WR) (vo vt vm vb : Value) : Array Value :=
  #[vo, vt, vm, .slice none 0 0, .int .i64 0, .bool r.plain, .bool r.empty, .int .i64 r.bound, vb, .slice none 0 0]

structure WrV (B b : Nat) (r : WR) (vo vt vm vb : Value) (ts : List ByteArray) (ms : List Int) (w : World) : Prop where
  hB : B ≤ b
  hw : B ≤ w.heap.size
  tab : Tabs B w
  heap : w.heap[b]? = some (.cells (r.cs vo vt vm vb) tW (0, 0))
  out : w.ownsRow B tB 1 vo r.out.length (bv r.out)
  texts : w.ownsRow B tStr 1 vt ts.length (ts.map Value.string)
  marks : w.ownsRow B tInt 1 vm ms.length (ms.map (Value.int .i64))
  bds : w.ownsRow B tBd 2 vb r.bounds.length (bdv r.bounds)
  nt : ts.length ≤ r.cnt
  nm : ms.length ≤ r.cnt
  nb : r.bounds.length ≤ r.out.length

def Wr (B b : Nat) (r : WR) (w : World) : Prop := ∃ vo vt vm vb ts ms, WrV B b r vo vt vm vb ts ms w

section
variable {B b : Nat} {r : WR} {vo vt vm vb : Value} {ts : List ByteArray} {ms : List Int} {w : World}
theorem WrV.wr (h : WrV B b r vo vt vm vb ts ms w) : Wr B b r w := ⟨_, _, _, _, _, _, h⟩
theorem WrV.lt (h : WrV B b r vo vt vm vb ts ms w) : b < w.heap.size := (Array.getElem?_eq_some_iff.1 h.heap).1
theorem WrV.c0 (h : WrV B b r vo vt vm vb ts ms w) : w.cell? ⟨b, 0, none⟩ = some vo := by rw [cellAt h.heap]; rfl
theorem WrV.c1 (h : WrV B b r vo vt vm vb ts ms w) : w.cell? ⟨b, 1, none⟩ = some vt := by rw [cellAt h.heap]; rfl
theorem WrV.c2 (h : WrV B b r vo vt vm vb ts ms w) : w.cell? ⟨b, 2, none⟩ = some vm := by rw [cellAt h.heap]; rfl
theorem WrV.c3 (h : WrV B b r vo vt vm vb ts ms w) : w.cell? ⟨b, 3, none⟩ = some (.slice none 0 0) := by rw [cellAt h.heap]; rfl
theorem WrV.c5 (h : WrV B b r vo vt vm vb ts ms w) : w.cell? ⟨b, 5, none⟩ = some (.bool r.plain) := by rw [cellAt h.heap]; rfl
theorem WrV.c6 (h : WrV B b r vo vt vm vb ts ms w) : w.cell? ⟨b, 6, none⟩ = some (.bool r.empty) := by rw [cellAt h.heap]; rfl
theorem WrV.c7 (h : WrV B b r vo vt vm vb ts ms w) : w.cell? ⟨b, 7, none⟩ = some (.int .i64 r.bound) := by rw [cellAt h.heap]; rfl
theorem WrV.c8 (h : WrV B b r vo vt vm vb ts ms w) : w.cell? ⟨b, 8, none⟩ = some vb := by rw [cellAt h.heap]; rfl
theorem WrV.c9 (h : WrV B b r vo vt vm vb ts ms w) : w.cell? ⟨b, 9, none⟩ = some (.slice none 0 0) := by rw [cellAt h.heap]; rfl
theorem WrV.fz (h : WrV B b r vo vt vm vb ts ms w) (j : Nat) : w.frozen? ⟨b, j, none⟩ = false := Lib.frozen_of_heap h.heap j
theorem WrV.kind (h : WrV B b r vo vt vm vb ts ms w) : kindOf w.heap[b]? = some tW := by rw [h.heap]; rfl

/-- A step of the world that leaves the writer's block and rows. -/
theorem WrV.grownBy {w' : World} {row : Option Nat} {e : TypeId} (h : WrV B b r vo vt vm vb ts ms w) (hg : w.grownBy w' row) (hrow : ∀ k, row = some k → B ≤ k ∧ kindOf w.heap[k]? = some e)
    (h0 : tW ≠ e) (h1 : tB ≠ e) (h2 : tStr ≠ e) (h3 : tInt ≠ e) (h4 : tBd ≠ e) : WrV B b r vo vt vm vb ts ms w' := by
  have hr : ∀ k, row = some k → kindOf w.heap[k]? = some e := fun k hk => (hrow k hk).2
  refine ⟨h.hB, by have := hg.size; have := h.hw; omega, h.tab.same fun k hk => hg.block k (by have := h.hw; omega) (fun e1 => by have := (hrow k e1.symm).1; omega), ?_,
    rowKept h.out hg h1 hr, rowKept h.texts hg h2 hr, rowKept h.marks hg h3 hr, rowKept h.bds hg h4 hr, h.nt, h.nm, h.nb⟩
  rw [hg.block b h.lt (fun e1 => by have := hr b e1.symm; rw [h.kind] at this; exact h0 (Option.some.inj this))]
  exact h.heap
theorem WrV.alloc (h : WrV B b r vo vt vm vb ts ms w) (o : Obj) : WrV B b r vo vt vm vb ts ms (w.alloc o) :=
  ⟨h.hB, by have := h.hw; simp; omega, h.tab.same (fun k hk => Below.heap_alloc _ _ _ (by have := h.hw; omega)), (Below.heap_alloc _ _ _ h.lt).trans h.heap, h.out.alloc o, h.texts.alloc o, h.marks.alloc o, h.bds.alloc o, h.nt, h.nm, h.nb⟩
theorem WrV.drewN (h : WrV B b r vo vt vm vb ts ms w) (n : Nat) : WrV B b r vo vt vm vb ts ms (w.drewN n) := ⟨h.hB, h.hw, h.tab, h.heap, h.out, h.texts, h.marks, h.bds, h.nt, h.nm, h.nb⟩

/-- A store into the writer's own block. -/
theorem WrV.put {j : Nat} {v : Value} (h : WrV B b r vo vt vm vb ts ms w) (r' : WR) (hc : (r.cs vo vt vm vb).setIfInBounds j v = r'.cs vo vt vm vb) (ho : r'.out = r.out) (hb : r'.bounds = r.bounds) (hn : r'.cnt = r.cnt) :
    WrV B b r' vo vt vm vb ts ms (w.setCell ⟨b, j, none⟩ v) := by
  have hg := grown_setCell w ⟨b, j, none⟩ v
  have hr : ∀ k, some b = some k → kindOf w.heap[k]? = some tW := fun k e => by cases e; exact h.kind
  exact ⟨h.hB, by simpa [World.setCell] using h.hw, h.tab.same (fun k hk => Below.heap_setCell _ _ _ _ (by have := h.hB; simp; omega)), by rw [setCell_heap h.heap, hc],
    by rw [ho]; exact rowKept h.out hg (by decide) hr, rowKept h.texts hg (by decide) hr, rowKept h.marks hg (by decide) hr, by rw [hb]; exact rowKept h.bds hg (by decide) hr, by rw [hn]; exact h.nt, by rw [hn]; exact h.nm, by rw [ho, hb]; exact h.nb⟩
theorem WrV.setEmpty (h : WrV B b r vo vt vm vb ts ms w) (x : Bool) : WrV B b { r with empty := x } vo vt vm vb ts ms (w.setCell ⟨b, 6, none⟩ (.bool x)) := h.put _ rfl rfl rfl rfl
theorem WrV.setBound (h : WrV B b r vo vt vm vb ts ms w) (n : Nat) {i : Int} (hi : i = n) : WrV B b { r with bound := n } vo vt vm vb ts ms (w.setCell ⟨b, 7, none⟩ (.int .i64 i)) := by subst hi; exact h.put _ rfl rfl rfl rfl

/-- Bytes laid behind. -/
theorem WrV.setOut {w' : World} {vo' : Value} {l : List UInt8} (h : WrV B b r vo vt vm vb ts ms w) (hg : w.grownBy w' vo.ownBlock) (hown : w'.ownsRow B tB 1 vo' l.length (bv l)) (hl : r.out.length ≤ l.length) :
    w'.heap[b]? = some (.cells (r.cs vo vt vm vb) tW (0, 0)) ∧ WrV B b { r with out := l } vo' vt vm vb ts ms (w'.setCell ⟨b, 0, none⟩ vo') := by
  have hr : ∀ k, vo.ownBlock = some k → kindOf w.heap[k]? = some tB := fun k e => (rowKind h.out k e).2
  have hb : w'.heap[b]? = some (.cells (r.cs vo vt vm vb) tW (0, 0)) := by
    rw [hg.block b h.lt (fun e => by have := hr b e.symm; rw [h.kind] at this; exact absurd (Option.some.inj this) (by decide))]
    exact h.heap
  have hg2 := grown_setCell w' ⟨b, 0, none⟩ vo'
  have hr2 : ∀ k, some b = some k → kindOf w'.heap[k]? = some tW := fun k e => by cases e; rw [hb]; rfl
  refine ⟨hb, h.hB, by have := hg.size; have := h.hw; simp [World.setCell]; omega, h.tab.same (fun k hk => ?_), by rw [setCell_heap hb]; rfl, rowKept hown hg2 (by decide) hr2,
    rowKept (rowKept h.texts hg (by decide) hr) hg2 (by decide) hr2, rowKept (rowKept h.marks hg (by decide) hr) hg2 (by decide) hr2, rowKept (rowKept h.bds hg (by decide) hr) hg2 (by decide) hr2, h.nt, h.nm, Nat.le_trans h.nb hl⟩
  rw [Below.heap_setCell _ _ _ _ (by have := h.hB; simp; omega)]
  exact hg.block k (by have := h.hw; omega) (fun e => by have := (rowKind h.out k e.symm).1; omega)
/-- A text, and where it was written, laid behind. -/
theorem WrV.setTexts {w' : World} {vt' : Value} {ts' : List ByteArray} (h : WrV B b r vo vt vm vb ts ms w) (hg : w.grownBy w' vt.ownBlock) (hown : w'.ownsRow B tStr 1 vt' ts'.length (ts'.map Value.string)) (hl : ts'.length ≤ r.cnt) :
    w'.heap[b]? = some (.cells (r.cs vo vt vm vb) tW (0, 0)) ∧ WrV B b r vo vt' vm vb ts' ms (w'.setCell ⟨b, 1, none⟩ vt') := by
  have hr : ∀ k, vt.ownBlock = some k → kindOf w.heap[k]? = some tStr := fun k e => (rowKind h.texts k e).2
  have hb : w'.heap[b]? = some (.cells (r.cs vo vt vm vb) tW (0, 0)) := by
    rw [hg.block b h.lt (fun e => by have := hr b e.symm; rw [h.kind] at this; exact absurd (Option.some.inj this) (by decide))]
    exact h.heap
  have hg2 := grown_setCell w' ⟨b, 1, none⟩ vt'
  have hr2 : ∀ k, some b = some k → kindOf w'.heap[k]? = some tW := fun k e => by cases e; rw [hb]; rfl
  refine ⟨hb, h.hB, by have := hg.size; have := h.hw; simp [World.setCell]; omega, h.tab.same (fun k hk => ?_), by rw [setCell_heap hb]; rfl, rowKept (rowKept h.out hg (by decide) hr) hg2 (by decide) hr2,
    rowKept hown hg2 (by decide) hr2, rowKept (rowKept h.marks hg (by decide) hr) hg2 (by decide) hr2, rowKept (rowKept h.bds hg (by decide) hr) hg2 (by decide) hr2, hl, h.nm, h.nb⟩
  rw [Below.heap_setCell _ _ _ _ (by have := h.hB; simp; omega)]
  exact hg.block k (by have := h.hw; omega) (fun e => by have := (rowKind h.texts k e.symm).1; omega)
theorem WrV.setMarks {w' : World} {vm' : Value} {ms' : List Int} (h : WrV B b r vo vt vm vb ts ms w) (hg : w.grownBy w' vm.ownBlock) (hown : w'.ownsRow B tInt 1 vm' ms'.length (ms'.map (Value.int .i64))) (hl : ms'.length ≤ r.cnt) :
    w'.heap[b]? = some (.cells (r.cs vo vt vm vb) tW (0, 0)) ∧ WrV B b r vo vt vm' vb ts ms' (w'.setCell ⟨b, 2, none⟩ vm') := by
  have hr : ∀ k, vm.ownBlock = some k → kindOf w.heap[k]? = some tInt := fun k e => (rowKind h.marks k e).2
  have hb : w'.heap[b]? = some (.cells (r.cs vo vt vm vb) tW (0, 0)) := by
    rw [hg.block b h.lt (fun e => by have := hr b e.symm; rw [h.kind] at this; exact absurd (Option.some.inj this) (by decide))]
    exact h.heap
  have hg2 := grown_setCell w' ⟨b, 2, none⟩ vm'
  have hr2 : ∀ k, some b = some k → kindOf w'.heap[k]? = some tW := fun k e => by cases e; rw [hb]; rfl
  refine ⟨hb, h.hB, by have := hg.size; have := h.hw; simp [World.setCell]; omega, h.tab.same (fun k hk => ?_), by rw [setCell_heap hb]; rfl, rowKept (rowKept h.out hg (by decide) hr) hg2 (by decide) hr2,
    rowKept (rowKept h.texts hg (by decide) hr) hg2 (by decide) hr2, rowKept hown hg2 (by decide) hr2, rowKept (rowKept h.bds hg (by decide) hr) hg2 (by decide) hr2, h.nt, hl, h.nb⟩
  rw [Below.heap_setCell _ _ _ _ (by have := h.hB; simp; omega)]
  exact hg.block k (by have := h.hw; omega) (fun e => by have := (rowKind h.marks k e.symm).1; omega)
/-- One more piece is counted. -/
theorem WrV.more (h : WrV B b r vo vt vm vb ts ms w) : WrV B b { r with cnt := r.cnt + 1 } vo vt vm vb ts ms w :=
  ⟨h.hB, h.hw, h.tab, h.heap, h.out, h.texts, h.marks, h.bds, Nat.le_trans h.nt (Nat.le_succ _), Nat.le_trans h.nm (Nat.le_succ _), h.nb⟩
theorem WrV.keeps {a : World} (h : WrV B b r vo vt vm vb ts ms w) (k : KeptM MW B a w) (j : Nat) (v : Value) : KeptM MW B a (w.setCell ⟨b, j, none⟩ v) :=
  k.setCell h.hB (t := tW) (by decide) h.kind v
end
end Go.Proofs.YtlpbhfmhndhbkaaGreatDoor
