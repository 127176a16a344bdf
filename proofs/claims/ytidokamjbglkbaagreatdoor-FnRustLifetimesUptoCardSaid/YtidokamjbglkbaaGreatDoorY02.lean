/- The memory of the reference's writer. -/
import Derived.Test.YtidokamjbglkbaaGreatDoorY01
import Derived.ProofKit
import Derived.OpenShut
import Derived.Deep.Slices
namespace Go.Proofs.YtidokamjbglkbaaGreatDoor
open Go.RowKit

/-- Blocks of the kinds M alone are written, from B on. -/
structure KeptM (M : List TypeId) (B : Nat) (w w' : World) : Prop where
  os : w'.os = w.os
  tape : w'.tape = w.tape
  output : w'.output = w.output
  size : w.heap.size ≤ w'.heap.size
  block : ∀ k, k < w.heap.size → (k < B ∨ ∀ t ∈ M, kindOf w.heap[k]? ≠ some t) → w'.heap[k]? = w.heap[k]?

section
variable {M : List TypeId} {B : Nat}
theorem KeptM.refl (w : World) : KeptM M B w w := ⟨rfl, rfl, rfl, Nat.le_refl _, fun _ _ _ => rfl⟩
theorem KeptM.trans {a b c : World} (h : KeptM M B a b) (k : KeptM M B b c) : KeptM M B a c :=
  ⟨k.os.trans h.os, k.tape.trans h.tape, k.output.trans h.output, Nat.le_trans h.size k.size,
   fun i hi hc => (k.block i (Nat.lt_of_lt_of_le hi h.size) (by rw [h.block i hi hc]; exact hc)).trans (h.block i hi hc)⟩
theorem KeptM.drewN {a w : World} (h : KeptM M B a w) (n : Nat) : KeptM M B a (w.drewN n) := ⟨h.os, h.tape, h.output, h.size, h.block⟩
theorem KeptM.alloc {a w : World} (h : KeptM M B a w) (o : Obj) : KeptM M B a (w.alloc o) :=
  h.trans ⟨rfl, rfl, rfl, by simp, fun k hk _ => Below.heap_alloc _ _ _ hk⟩
theorem KeptM.setCell {a w : World} (h : KeptM M B a w) {p : Addr} (hB : B ≤ p.block) {t : TypeId} (ht : t ∈ M) (hk : kindOf w.heap[p.block]? = some t) (u : Value) : KeptM M B a (w.setCell p u) :=
  h.trans ⟨rfl, rfl, rfl, by simp [World.setCell], fun k _ hc => Below.heap_setCell _ _ _ _ (fun e => by
    rcases hc with hc | hc
    · omega
    · exact hc t ht (by rw [e]; exact hk))⟩
theorem KeptM.grown {a w w' : World} {row : Option Nat} (h : KeptM M B a w) (hg : w.grownBy w' row) {t : TypeId} (ht : t ∈ M)
    (hr : ∀ k, row = some k → B ≤ k ∧ kindOf w.heap[k]? = some t) : KeptM M B a w' :=
  h.trans ⟨hg.os, hg.tape, hg.output, hg.size,
    fun k hk hc => hg.block k hk (fun e => by
      have := hr k e.symm
      rcases hc with hc | hc
      · omega
      · exact hc t ht this.2)⟩
theorem KeptM.below {w w' : World} (h : KeptM M B w w') (hB : B ≤ w.heap.size) : Below B w w' :=
  ⟨h.os, h.tape, h.output, h.size, fun k hk => h.block k (by omega) (.inl hk)⟩
theorem KeptM.of_below {w w' : World} (h : Below w.heap.size w w') : KeptM M B w w' :=
  ⟨h.os, h.tape, h.output, h.size, fun k hk _ => h.block k hk⟩
end

abbrev tW : TypeId := 50
abbrev tStr : TypeId := 9
abbrev tInt : TypeId := 3
abbrev tBd : TypeId := 55
abbrev tRu : TypeId := 25
abbrev MW : List TypeId := [tW, tB, tStr, tInt, tBd]

/-- The kind of the row that a value owns. -/
theorem rowKind {w : World} {B size : Nat} {e : TypeId} {v : Value} {n : Nat} {xs : List Value} (h : w.ownsRow B e size v n xs) : ∀ k, v.ownBlock = some k → B ≤ k ∧ kindOf w.heap[k]? = some e := by
  intro k hk
  refine ⟨(h.lt k hk).1, ?_⟩
  rcases h.2 with ⟨rfl, _⟩ | ⟨g, cap, cur, rfl, _, hg, _⟩
  · simp [Value.ownBlock] at hk
  · simp only [Value.ownBlock, Option.some.injEq] at hk
    subst hk
    rw [hg]; rfl
/-- An owned row stays where another kind of row is written. -/
theorem rowKept {w w' : World} {B size : Nat} {e e' : TypeId} {v : Value} {n : Nat} {xs : List Value} {row : Option Nat} (h : w.ownsRow B e size v n xs) (hg : w.grownBy w' row) (hne : e ≠ e')
    (hr : ∀ k, row = some k → kindOf w.heap[k]? = some e') : w'.ownsRow B e size v n xs := by
  refine h.kept hg ?_
  cases hv : v.ownBlock with
  | none => exact .inl rfl
  | some k =>
    refine .inr fun e1 => hne ?_
    have h1 := (rowKind h k hv).2
    have h2 := hr k e1.symm
    rw [h1] at h2
    exact Option.some.inj h2
theorem grown_setCell (w : World) (p : Addr) (u : Value) : w.grownBy (w.setCell p u) (some p.block) :=
  ⟨rfl, rfl, rfl, by simp [World.setCell], fun k _ hk => Below.heap_setCell _ _ _ _ (fun e => hk (by simp [e]))⟩

/-- What a writer holds (of its texts and marks only how many). -/
structure WR where
  out : List UInt8
  plain : Bool
  empty : Bool
  bound : Nat
  bounds : List (Nat × Nat)
  cnt : Nat

def bdv (l : List (Nat × Nat)) : List Value := l.flatMap fun p => [.int .i64 p.1, .int .i64 p.2]

def WR.cs (r : WR) (vo vt vm vb : Value) : Array Value :=
  #[vo, vt, vm, .slice none 0 0, .int .i64 0, .bool r.plain, .bool r.empty, .int .i64 r.bound, vb, .slice none 0 0]

structure WrV (B b : Nat) (r : WR) (vo vt vm vb : Value) (ts : List ByteArray) (ms : List Int) (w : World) : Prop where
  hB : B ≤ b
  hw : B ≤ w.heap.size
  tab : Tabs B w
  heap : w.heap[b]? = some (.cells (r.cs vo vt vm vb) tW (0, 0))
  out : w.ownsRow B tB 1 vo r.out.length (bv r.out)
  texts : w.ownsRow B tStr 1 vt ts.length (ts.map Value.string)
  marks : w.ownsRow B tInt 1 vm ms.length (ms.map (Value.int .i64))
  bds : w.ownsRow B tBd 2 vb r.bounds.length (bdv r.bounds)
  nt : ts.length ≤ r.cnt
  nm : ms.length ≤ r.cnt
  nb : r.bounds.length ≤ r.out.length
  bd : r.bound ≤ 20 * r.out.length

def Wr (B b : Nat) (r : WR) (w : World) : Prop := ∃ vo vt vm vb ts ms, WrV B b r vo vt vm vb ts ms w

section
variable {B b : Nat} {r : WR} {vo vt vm vb : Value} {ts : List ByteArray} {ms : List Int} {w : World}
theorem WrV.wr (h : WrV B b r vo vt vm vb ts ms w) : Wr B b r w := ⟨_, _, _, _, _, _, h⟩
theorem WrV.lt (h : WrV B b r vo vt vm vb ts ms w) : b < w.heap.size := (Array.getElem?_eq_some_iff.1 h.heap).1
theorem WrV.c0 (h : WrV B b r vo vt vm vb ts ms w) : w.cell? ⟨b, 0, none⟩ = some vo := by rw [cellAt h.heap]; rfl
theorem WrV.c1 (h : WrV B b r vo vt vm vb ts ms w) : w.cell? ⟨b, 1, none⟩ = some vt := by rw [cellAt h.heap]; rfl
theorem WrV.c2 (h : WrV B b r vo vt vm vb ts ms w) : w.cell? ⟨b, 2, none⟩ = some vm := by rw [cellAt h.heap]; rfl
theorem WrV.c3 (h : WrV B b r vo vt vm vb ts ms w) : w.cell? ⟨b, 3, none⟩ = some (.slice none 0 0) := by rw [cellAt h.heap]; rfl
theorem WrV.c5 (h : WrV B b r vo vt vm vb ts ms w) : w.cell? ⟨b, 5, none⟩ = some (.bool r.plain) := by rw [cellAt h.heap]; rfl
theorem WrV.c6 (h : WrV B b r vo vt vm vb ts ms w) : w.cell? ⟨b, 6, none⟩ = some (.bool r.empty) := by rw [cellAt h.heap]; rfl
theorem WrV.c7 (h : WrV B b r vo vt vm vb ts ms w) : w.cell? ⟨b, 7, none⟩ = some (.int .i64 r.bound) := by rw [cellAt h.heap]; rfl
theorem WrV.c8 (h : WrV B b r vo vt vm vb ts ms w) : w.cell? ⟨b, 8, none⟩ = some vb := by rw [cellAt h.heap]; rfl
theorem WrV.c9 (h : WrV B b r vo vt vm vb ts ms w) : w.cell? ⟨b, 9, none⟩ = some (.slice none 0 0) := by rw [cellAt h.heap]; rfl
theorem WrV.fz (h : WrV B b r vo vt vm vb ts ms w) (j : Nat) : w.frozen? ⟨b, j, none⟩ = false := Lib.frozen_of_heap h.heap j
theorem WrV.kind (h : WrV B b r vo vt vm vb ts ms w) : kindOf w.heap[b]? = some tW := by rw [h.heap]; rfl

/-- A step of the world that leaves the writer's block and rows. -/
theorem WrV.grownBy {w' : World} {row : Option Nat} {e : TypeId} (h : WrV B b r vo vt vm vb ts ms w) (hg : w.grownBy w' row) (hrow : ∀ k, row = some k → B ≤ k ∧ kindOf w.heap[k]? = some e)
    (h0 : tW ≠ e) (h1 : tB ≠ e) (h2 : tStr ≠ e) (h3 : tInt ≠ e) (h4 : tBd ≠ e) : WrV B b r vo vt vm vb ts ms w' := by
  have hr : ∀ k, row = some k → kindOf w.heap[k]? = some e := fun k hk => (hrow k hk).2
  refine ⟨h.hB, by have := hg.size; have := h.hw; omega, h.tab.same fun k hk => hg.block k (by have := h.hw; omega) (fun e1 => by have := (hrow k e1.symm).1; omega), ?_,
    rowKept h.out hg h1 hr, rowKept h.texts hg h2 hr, rowKept h.marks hg h3 hr, rowKept h.bds hg h4 hr, h.nt, h.nm, h.nb, h.bd⟩
  rw [hg.block b h.lt (fun e1 => by have := hr b e1.symm; rw [h.kind] at this; exact h0 (Option.some.inj this))]
  exact h.heap
theorem WrV.alloc (h : WrV B b r vo vt vm vb ts ms w) (o : Obj) : WrV B b r vo vt vm vb ts ms (w.alloc o) :=
  ⟨h.hB, by have := h.hw; simp; omega, h.tab.same (fun k hk => Below.heap_alloc _ _ _ (by have := h.hw; omega)), (Below.heap_alloc _ _ _ h.lt).trans h.heap, h.out.alloc o, h.texts.alloc o, h.marks.alloc o, h.bds.alloc o, h.nt, h.nm, h.nb, h.bd⟩
theorem WrV.drewN (h : WrV B b r vo vt vm vb ts ms w) (n : Nat) : WrV B b r vo vt vm vb ts ms (w.drewN n) := ⟨h.hB, h.hw, h.tab, h.heap, h.out, h.texts, h.marks, h.bds, h.nt, h.nm, h.nb, h.bd⟩

/-- A store into the writer's own block. -/
theorem WrV.put {j : Nat} {v : Value} (h : WrV B b r vo vt vm vb ts ms w) (r' : WR) (hc : (r.cs vo vt vm vb).setIfInBounds j v = r'.cs vo vt vm vb) (ho : r'.out = r.out) (hb : r'.bounds = r.bounds) (hn : r'.cnt = r.cnt) (hbd : r'.bound ≤ 20 * r'.out.length) :
    WrV B b r' vo vt vm vb ts ms (w.setCell ⟨b, j, none⟩ v) := by
  have hg := grown_setCell w ⟨b, j, none⟩ v
  have hr : ∀ k, some b = some k → kindOf w.heap[k]? = some tW := fun k e => by cases e; exact h.kind
  exact ⟨h.hB, by simpa [World.setCell] using h.hw, h.tab.same (fun k hk => Below.heap_setCell _ _ _ _ (by have := h.hB; simp; omega)), by rw [setCell_heap h.heap, hc],
    by rw [ho]; exact rowKept h.out hg (by decide) hr, rowKept h.texts hg (by decide) hr, rowKept h.marks hg (by decide) hr, by rw [hb]; exact rowKept h.bds hg (by decide) hr, by rw [hn]; exact h.nt, by rw [hn]; exact h.nm, by rw [ho, hb]; exact h.nb, hbd⟩
theorem WrV.setEmpty (h : WrV B b r vo vt vm vb ts ms w) (x : Bool) : WrV B b { r with empty := x } vo vt vm vb ts ms (w.setCell ⟨b, 6, none⟩ (.bool x)) := h.put _ rfl rfl rfl rfl h.bd
theorem WrV.setBound (h : WrV B b r vo vt vm vb ts ms w) (n : Nat) {i : Int} (hi : i = n) (hb : n ≤ 20 * r.out.length) : WrV B b { r with bound := n } vo vt vm vb ts ms (w.setCell ⟨b, 7, none⟩ (.int .i64 i)) := by subst hi; exact h.put _ rfl rfl rfl rfl hb

/-- Bytes laid behind. -/
theorem WrV.setOut {w' : World} {vo' : Value} {l : List UInt8} (h : WrV B b r vo vt vm vb ts ms w) (hg : w.grownBy w' vo.ownBlock) (hown : w'.ownsRow B tB 1 vo' l.length (bv l)) (hl : r.out.length ≤ l.length) :
    w'.heap[b]? = some (.cells (r.cs vo vt vm vb) tW (0, 0)) ∧ WrV B b { r with out := l } vo' vt vm vb ts ms (w'.setCell ⟨b, 0, none⟩ vo') := by
  have hr : ∀ k, vo.ownBlock = some k → kindOf w.heap[k]? = some tB := fun k e => (rowKind h.out k e).2
  have hb : w'.heap[b]? = some (.cells (r.cs vo vt vm vb) tW (0, 0)) := by
    rw [hg.block b h.lt (fun e => by have := hr b e.symm; rw [h.kind] at this; exact absurd (Option.some.inj this) (by decide))]
    exact h.heap
  have hg2 := grown_setCell w' ⟨b, 0, none⟩ vo'
  have hr2 : ∀ k, some b = some k → kindOf w'.heap[k]? = some tW := fun k e => by cases e; rw [hb]; rfl
  refine ⟨hb, h.hB, by have := hg.size; have := h.hw; simp [World.setCell]; omega, h.tab.same (fun k hk => ?_), by rw [setCell_heap hb]; rfl, rowKept hown hg2 (by decide) hr2,
    rowKept (rowKept h.texts hg (by decide) hr) hg2 (by decide) hr2, rowKept (rowKept h.marks hg (by decide) hr) hg2 (by decide) hr2, rowKept (rowKept h.bds hg (by decide) hr) hg2 (by decide) hr2, h.nt, h.nm, Nat.le_trans h.nb hl, Nat.le_trans h.bd (Nat.mul_le_mul (Nat.le_refl _) hl)⟩
  rw [Below.heap_setCell _ _ _ _ (by have := h.hB; simp; omega)]
  exact hg.block k (by have := h.hw; omega) (fun e => by have := (rowKind h.out k e.symm).1; omega)
/-- A text, and where it was written, laid behind. -/
theorem WrV.setTexts {w' : World} {vt' : Value} {ts' : List ByteArray} (h : WrV B b r vo vt vm vb ts ms w) (hg : w.grownBy w' vt.ownBlock) (hown : w'.ownsRow B tStr 1 vt' ts'.length (ts'.map Value.string)) (hl : ts'.length ≤ r.cnt) :
    w'.heap[b]? = some (.cells (r.cs vo vt vm vb) tW (0, 0)) ∧ WrV B b r vo vt' vm vb ts' ms (w'.setCell ⟨b, 1, none⟩ vt') := by
  have hr : ∀ k, vt.ownBlock = some k → kindOf w.heap[k]? = some tStr := fun k e => (rowKind h.texts k e).2
  have hb : w'.heap[b]? = some (.cells (r.cs vo vt vm vb) tW (0, 0)) := by
    rw [hg.block b h.lt (fun e => by have := hr b e.symm; rw [h.kind] at this; exact absurd (Option.some.inj this) (by decide))]
    exact h.heap
  have hg2 := grown_setCell w' ⟨b, 1, none⟩ vt'
  have hr2 : ∀ k, some b = some k → kindOf w'.heap[k]? = some tW := fun k e => by cases e; rw [hb]; rfl
  refine ⟨hb, h.hB, by have := hg.size; have := h.hw; simp [World.setCell]; omega, h.tab.same (fun k hk => ?_), by rw [setCell_heap hb]; rfl, rowKept (rowKept h.out hg (by decide) hr) hg2 (by decide) hr2,
    rowKept hown hg2 (by decide) hr2, rowKept (rowKept h.marks hg (by decide) hr) hg2 (by decide) hr2, rowKept (rowKept h.bds hg (by decide) hr) hg2 (by decide) hr2, hl, h.nm, h.nb, h.bd⟩
  rw [Below.heap_setCell _ _ _ _ (by have := h.hB; simp; omega)]
  exact hg.block k (by have := h.hw; omega) (fun e => by have := (rowKind h.texts k e.symm).1; omega)
theorem WrV.setMarks {w' : World} {vm' : Value} {ms' : List Int} (h : WrV B b r vo vt vm vb ts ms w) (hg : w.grownBy w' vm.ownBlock) (hown : w'.ownsRow B tInt 1 vm' ms'.length (ms'.map (Value.int .i64))) (hl : ms'.length ≤ r.cnt) :
    w'.heap[b]? = some (.cells (r.cs vo vt vm vb) tW (0, 0)) ∧ WrV B b r vo vt vm' vb ts ms' (w'.setCell ⟨b, 2, none⟩ vm') := by
  have hr : ∀ k, vm.ownBlock = some k → kindOf w.heap[k]? = some tInt := fun k e => (rowKind h.marks k e).2
  have hb : w'.heap[b]? = some (.cells (r.cs vo vt vm vb) tW (0, 0)) := by
    rw [hg.block b h.lt (fun e => by have := hr b e.symm; rw [h.kind] at this; exact absurd (Option.some.inj this) (by decide))]
    exact h.heap
  have hg2 := grown_setCell w' ⟨b, 2, none⟩ vm'
  have hr2 : ∀ k, some b = some k → kindOf w'.heap[k]? = some tW := fun k e => by cases e; rw [hb]; rfl
  refine ⟨hb, h.hB, by have := hg.size; have := h.hw; simp [World.setCell]; omega, h.tab.same (fun k hk => ?_), by rw [setCell_heap hb]; rfl, rowKept (rowKept h.out hg (by decide) hr) hg2 (by decide) hr2,
    rowKept (rowKept h.texts hg (by decide) hr) hg2 (by decide) hr2, rowKept hown hg2 (by decide) hr2, rowKept (rowKept h.bds hg (by decide) hr) hg2 (by decide) hr2, h.nt, hl, h.nb, h.bd⟩
  rw [Below.heap_setCell _ _ _ _ (by have := h.hB; simp; omega)]
  exact hg.block k (by have := h.hw; omega) (fun e => by have := (rowKind h.marks k e.symm).1; omega)
/-- One more piece is counted. -/
theorem WrV.more (h : WrV B b r vo vt vm vb ts ms w) : WrV B b { r with cnt := r.cnt + 1 } vo vt vm vb ts ms w :=
  ⟨h.hB, h.hw, h.tab, h.heap, h.out, h.texts, h.marks, h.bds, Nat.le_trans h.nt (Nat.le_succ _), Nat.le_trans h.nm (Nat.le_succ _), h.nb, h.bd⟩
theorem WrV.keeps {a : World} (h : WrV B b r vo vt vm vb ts ms w) (k : KeptM MW B a w) (j : Nat) (v : Value) : KeptM MW B a (w.setCell ⟨b, j, none⟩ v) :=
  k.setCell h.hB (t := tW) (by decide) h.kind v
end
end Go.Proofs.YtidokamjbglkbaaGreatDoor

/- The look's memory. -/
namespace Go.Proofs.YtidokamjbglkbaaGreatDoor
open Go.RowKit

theorem fits_const (kd : Int) (w : World) : Calls Tryz.prog 34 #[.int .i64 kd, .int .i64 3] w fun e w' => e = .returned (.bool (decide (kd = 20) || decide (kd = 21))) ∧ w' = w := by
  by_cases h : kd = 20
  · subst h
    go_enter Tryz.func34, Tryz.ntmps34
    go_wp2
    go_ret
    exact ⟨rfl, rfl⟩
  · have e1 : (kd == 20) = false := by rw [beq_eq_false_iff_ne]; exact h
    go_enter Tryz.func34, Tryz.ntmps34
    go_wp2
    go_ret
    refine ⟨?_, rfl⟩
    by_cases h2 : kd = 21
    · subst h2; rfl
    · have e2 : (kd == 21) = false := by rw [beq_eq_false_iff_ne]; exact h2
      simp [h, h2]

abbrev tL : TypeId := 57

/-- A look that goes on. -/
def Lk (b : Nat) (left : Int) (w : World) : Prop := w.heap[b]? = some (.cells #[.int .i64 left] tL (0, 0))
abbrev ML : List TypeId := [tL]
theorem Lk.cell {b : Nat} {left : Int} {w : World} (h : Lk b left w) : w.cell? ⟨b, 0, none⟩ = some (.int .i64 left) := by rw [cellAt h]; rfl
theorem Lk.fz {b : Nat} {left : Int} {w : World} (h : Lk b left w) : w.frozen? ⟨b, 0, none⟩ = false := Lib.frozen_of_heap h 0
theorem Lk.lt {b : Nat} {left : Int} {w : World} (h : Lk b left w) : b < w.heap.size := (Array.getElem?_eq_some_iff.1 h).1
theorem Lk.set {b : Nat} {left : Int} {w : World} (h : Lk b left w) (l : Int) : Lk b l (w.setCell ⟨b, 0, none⟩ (.int .i64 l)) := by
  unfold Lk at h ⊢; rw [setCell_heap h]; rfl
theorem Lk.alloc {b : Nat} {left : Int} {w : World} (h : Lk b left w) (o : Obj) : Lk b left (w.alloc o) := (Below.heap_alloc _ _ _ h.lt).trans h
theorem Lk.keeps {B b : Nat} {left : Int} {a w : World} (h : Lk b left w) (hB : B ≤ b) (k : KeptM ML B a w) (u : Value) : KeptM ML B a (w.setCell ⟨b, 0, none⟩ u) :=
  k.setCell (p := ⟨b, 0, none⟩) hB (t := tL) (by decide) (by unfold Lk at h; rw [h]; rfl) u
/-- It answers a bool of which Q holds, and the look goes on. -/
def LookP (Q : Prop) (B b : Nat) (w : World) (e : Ending) (w' : World) : Prop := ∃ (bl : Bool) (l : Int), e = .returned (.bool bl) ∧ (bl = true → Q) ∧ Lk b l w' ∧ KeptM ML B w w'
theorem LookP.mk {Q : Prop} {B b : Nat} {w w' : World} (bl : Bool) {l : Int} (h1 : bl = true → Q) (h2 : Lk b l w') (h3 : KeptM ML B w w') : LookP Q B b w (.returned (.bool bl)) w' := ⟨bl, l, rfl, h1, h2, h3⟩

end Go.Proofs.YtidokamjbglkbaaGreatDoor

/- Trees of names: how they are written, what is told of them. No program in sight. -/
namespace Go.Proofs.YtidokamjbglkbaaGreatDoor

/-- A tree: kind, letter, name, number, flag, kids. -/
inductive RT where
  | mk (kd : Int) (c : UInt8) (nm : List UInt8) (n : Nat) (fl : Bool) (ks : List RT)
instance : Inhabited RT := ⟨.mk 0 0 [] 0 false []⟩
def RT.kd : RT → Int | .mk kd _ _ _ _ _ => kd
def RT.c : RT → UInt8 | .mk _ c _ _ _ _ => c
def RT.nm : RT → List UInt8 | .mk _ _ nm _ _ _ => nm
def RT.n : RT → Nat | .mk _ _ _ n _ _ => n
def RT.fl : RT → Bool | .mk _ _ _ _ fl _ => fl
def RT.ks : RT → List RT | .mk _ _ _ _ _ ks => ks

/-- What is put behind, and whether an empty name stands last then. -/
def pt (e : Bool) (l : List UInt8) : List UInt8 := if l = [] then [] else sepOf e l ++ l
def pe (e : Bool) (l : List UInt8) : Bool := if l = [] then e else false

/-- A binder, a lifetime, as they are written. -/
def binder (n : Nat) : List UInt8 := if n = 0 then [] else 71 :: b62 (n - 1)
def lifeCode (n : Nat) : List UInt8 := 76 :: b62 n

section
variable (idw : List UInt8 → List UInt8)
/-- A name behind others. -/
def nameText (e : Bool) (nm : List UInt8) : List UInt8 := if nm = [] then pt e [48] else pt e (idw nm)
/-- What is told of a function's ABI, as it is written. -/
def abiCode (nm : List UInt8) : List UInt8 := if nm = [] then [] else if nm = [67] then [75, 67] else 75 :: idw (nm.map fun c => if c = 45 then 95 else c)
def fnHead (nm : List UInt8) (fl : Bool) : List UInt8 := (if fl then [85] else []) ++ abiCode idw nm

mutual
def emp : RT → Bool
  | .mk kd _ nm _ _ ks => if kd = 5 then decide (nm = []) else if kd = 1 ∨ kd = 6 ∨ kd = 7 ∨ kd = 10 ∨ kd = 19 ∨ kd = 20 ∨ kd = 21 then false else empL ks
def empL : List RT → Bool
  | [] => false
  | k :: ks => match ks with
    | [] => emp k
    | _ :: _ => empL ks
end

/-- K stands in front of a constant that is an argument. -/
def argMark (kd : Int) : List UInt8 := if kd = 20 ∨ kd = 21 then [75] else []

mutual
def enc : RT → List UInt8
  | .mk kd c nm n fl ks =>
    if kd = 1 then 67 :: (dis n ++ nameText idw false nm)
    else if kd = 2 then 77 :: (dis n ++ encs ks)
    else if kd = 3 then 88 :: (dis n ++ encs ks)
    else if kd = 4 then 89 :: encs ks
    else if kd = 5 then 78 :: c :: (encs ks ++ (pt (empL ks) (dis n) ++ nameText idw (pe (empL ks) (dis n)) nm))
    else if kd = 6 then 73 :: (encsA ks ++ [69])
    else if kd = 7 then [c]
    else if kd = 8 then 65 :: encs ks
    else if kd = 9 then 83 :: encs ks
    else if kd = 10 then 84 :: (encs ks ++ [69])
    else if kd = 11 then 82 :: ((if n = 0 then [] else lifeCode n) ++ encs ks)
    else if kd = 12 then 81 :: ((if n = 0 then [] else lifeCode n) ++ encs ks)
    else if kd = 13 then 80 :: encs ks
    else if kd = 14 then 79 :: encs ks
    else if kd = 15 then 70 :: (binder n ++ (fnHead idw nm fl ++ encsE ks))
    else if kd = 16 then 68 :: (binder n ++ encsE ks)
    else if kd = 17 then encs ks
    else if kd = 18 then 112 :: (idw nm ++ encs ks)
    else if kd = 19 then lifeCode n
    else if kd = 20 then c :: (negCode fl ++ (h16 n ++ [95]))
    else [112]
def encs : List RT → List UInt8
  | [] => []
  | k :: ks => enc k ++ encs ks
def encsA : List RT → List UInt8
  | [] => []
  | k :: ks => argMark k.kd ++ (enc k ++ encsA ks)
/-- E stands ahead of the last one. -/
def encsE : List RT → List UInt8
  | [] => []
  | k :: ks => match ks with
    | [] => 69 :: enc k
    | _ :: _ => enc k ++ encsE ks
end

mutual
def size : RT → Nat
  | .mk _ _ _ _ _ ks => 1 + sizes ks
def sizes : List RT → Nat
  | [] => 0
  | k :: ks => size k + sizes ks
end

mutual
/-- Where the binders stand, and how many lifetimes are bound there. -/
def bnds (off lb : Nat) : RT → List (Nat × Nat)
  | .mk kd _ nm n fl ks =>
    if kd = 2 ∨ kd = 3 then bndsL (off + (1 + (dis n).length)) lb ks
    else if kd = 5 then bndsL (off + 2) lb ks
    else if kd = 6 then bndsA (off + 1) lb ks
    else if kd = 4 ∨ kd = 8 ∨ kd = 9 ∨ kd = 10 ∨ kd = 13 ∨ kd = 14 then bndsL (off + 1) lb ks
    else if kd = 11 ∨ kd = 12 then bndsL (off + (1 + (if n = 0 then [] else lifeCode n).length)) lb ks
    else if kd = 15 then (if n = 0 then [] else [(off + (1 + (binder n).length), lb + n)]) ++ bndsE (off + (1 + ((binder n).length + (fnHead idw nm fl).length))) (lb + n) ks
    else if kd = 16 then (if n = 0 then [] else [(off + (1 + (binder n).length), lb + n)]) ++ bndsE (off + (1 + (binder n).length)) (lb + n) ks
    else if kd = 17 then bndsL off lb ks
    else if kd = 18 then bndsL (off + (1 + (idw nm).length)) lb ks
    else []
def bndsL (off lb : Nat) : List RT → List (Nat × Nat)
  | [] => []
  | k :: ks => bnds off lb k ++ bndsL (off + (enc idw k).length) lb ks
def bndsA (off lb : Nat) : List RT → List (Nat × Nat)
  | [] => []
  | k :: ks => bnds (off + (argMark k.kd).length) lb k ++ bndsA (off + ((argMark k.kd).length + (enc idw k).length)) lb ks
def bndsE (off lb : Nat) : List RT → List (Nat × Nat)
  | [] => []
  | k :: ks => match ks with
    | [] => bnds (off + 1) lb k
    | _ :: _ => bnds off lb k ++ bndsE (off + (enc idw k).length) lb ks
end
end

/-- How a tree is told: as a path (behind :: or not), as a type, as an argument, ..; generics that begin (and do not end). -/
inductive Md where
  | p (sep : Bool)
  | t
  | s

def Md.sep : Md → Bool
  | .p b => b
  | _ => false

/-- The text of a basic type. -/
def basicText (c : Nat) : List UInt8 :=
  if c = 97 then [105, 56] else if c = 98 then [98, 111, 111, 108] else if c = 99 then [99, 104, 97, 114] else if c = 100 then [102, 54, 52] else if c = 101 then [115, 116, 114]
  else if c = 102 then [102, 51, 50] else if c = 104 then [117, 56] else if c = 105 then [105, 115, 105, 122, 101] else if c = 106 then [117, 115, 105, 122, 101] else if c = 108 then [105, 51, 50]
  else if c = 109 then [117, 51, 50] else if c = 110 then [105, 49, 50, 56] else if c = 111 then [117, 49, 50, 56] else if c = 112 then [95] else if c = 115 then [105, 49, 54] else if c = 116 then [117, 49, 54]
  else if c = 117 then [40, 41] else if c = 118 then [46, 46, 46] else if c = 120 then [105, 54, 52] else if c = 121 then [117, 54, 52] else if c = 122 then [33] else []

/-- The text of what is bound: for<'a, 'b> -/
def forNames (lb n : Nat) : List (List UInt8) := (List.range n).map fun i => lifeText (lb + i + 1) 1
def binderText (lb n : Nat) : List UInt8 := if n = 0 then [] else [102, 111, 114, 60] ++ (joined [44, 32] (forNames lb n) ++ [62, 32])
/-- The last part of a path. -/
def nestText (c : UInt8) (nm : List UInt8) (n : Nat) : List UInt8 :=
  if c = 67 ∨ c = 83 then [58, 58, 123] ++ ((if c = 67 then [99, 108, 111, 115, 117, 114, 101] else [115, 104, 105, 109]) ++ ((if nm = [] then [] else 58 :: nm) ++ ((35 :: Lib.decDigits n) ++ [125])))
  else [58, 58] ++ nm
def fnWords (nm : List UInt8) (fl : Bool) : List UInt8 :=
  (if fl then [117, 110, 115, 97, 102, 101, 32] else []) ++ (if nm = [] then [] else [101, 120, 116, 101, 114, 110, 32, 34] ++ (nm ++ [34, 32]))
/-- The kind of a constant, as the reader numbers it. -/
def constKind (c : Nat) : Nat := if c = 98 then 3 else if c = 99 then 4 else if c = 97 ∨ c = 115 ∨ c = 108 ∨ c = 120 ∨ c = 110 ∨ c = 105 then 1 else 2

mutual
def txt (m : Md) (lb : Nat) : RT → List UInt8
  | .mk kd c nm n fl ks =>
    if kd = 1 then nm
    else if kd = 2 then 60 :: (joined [32, 97, 115, 32] ((txtsT lb ks).drop 1) ++ [62])
    else if kd = 3 then 60 :: (joined [32, 97, 115, 32] ((txtsT lb ks).drop 1) ++ [62])
    else if kd = 4 then 60 :: (joined [32, 97, 115, 32] (txtsT lb ks) ++ [62])
    else if kd = 5 then (txts (.p m.sep) lb ks).flatten ++ nestText c nm n
    else if kd = 6 then ((txts (.p m.sep) lb ks).headD [] ++ ((if m.sep then [58, 58] else []) ++ (60 :: joined [44, 32] ((txtsT lb ks).drop 1)))) ++ (match m with | .s => [] | _ => [62])
    else if kd = 7 then basicText c.toNat
    else if kd = 8 then 91 :: (joined [59, 32] (txtsT lb ks) ++ [93])
    else if kd = 9 then 91 :: ((txtsT lb ks).flatten ++ [93])
    else if kd = 10 then 40 :: (joined [44, 32] (txtsT lb ks) ++ ((if ks.length = 1 then [44] else []) ++ [41]))
    else if kd = 11 then 38 :: ((if n = 0 then [] else lifeText lb n ++ [32]) ++ (txtsT lb ks).flatten)
    else if kd = 12 then 38 :: ((if n = 0 then [] else lifeText lb n ++ [32]) ++ ([109, 117, 116, 32] ++ (txtsT lb ks).flatten))
    else if kd = 13 then [42, 99, 111, 110, 115, 116, 32] ++ (txtsT lb ks).flatten
    else if kd = 14 then [42, 109, 117, 116, 32] ++ (txtsT lb ks).flatten
    else if kd = 15 then binderText lb n ++ (fnWords nm fl ++ ([102, 110, 40] ++ (joined [44, 32] ((txtsT (lb + n) ks).dropLast) ++ (41 :: (if (ks.getLastD default).kd = 7 ∧ (ks.getLastD default).c = 117 then [] else [32, 45, 62, 32] ++ (txtsT (lb + n) ks).getLastD [])))))
    else if kd = 16 then [100, 121, 110, 32] ++ (binderText lb n ++ (joined [32, 43, 32] ((txts .s (lb + n) ks).dropLast) ++ (if (ks.getLastD default).n = 0 then [] else [32, 43, 32] ++ (txtsT lb ks).getLastD [])))
    else if kd = 17 then (txts .s lb ks).headD [] ++ (if (ks.headD default).kd = 6 then tailText [44, 32] ((txtsT lb ks).drop 1) ++ [62] else if ks.length ≤ 1 then [] else 60 :: (joined [44, 32] ((txtsT lb ks).drop 1) ++ [62]))
    else if kd = 18 then nm ++ ([32, 61, 32] ++ (txtsT lb ks).flatten)
    else if kd = 19 then lifeText lb n
    else if kd = 20 then negText fl ++ constText (constKind c.toNat) n
    else [95]
def txts (m : Md) (lb : Nat) : List RT → List (List UInt8)
  | [] => []
  | k :: ks => txt m lb k :: txts m lb ks
def txtsT (lb : Nat) : List RT → List (List UInt8)
  | [] => []
  | k :: ks => txt .t lb k :: txtsT lb ks
end
end Go.Proofs.YtidokamjbglkbaaGreatDoor

/- Trees in memory: what a value holds, how an argument is opened. -/
namespace Go.Proofs.YtidokamjbglkbaaGreatDoor
open Go.RowKit

abbrev tTree : TypeId := 25
abbrev tTrees : TypeId := 23

/-- The kids that a slice names lie in w, in a block below N: kid i has the cells V i. -/
def KidsIn (N : Nat) (w : World) (a : Option Addr) (m : Nat) (V : Nat → Array Value) : Prop :=
  0 < m → ∃ b off, a = some ⟨b, off, none⟩ ∧ b < N ∧ ∀ i, i < m → (V i).size = 6 ∧ ∀ j, j < 6 → w.cell? ⟨b, off + i * 6 + j, none⟩ = (V i)[j]?

/-- The cells of a tree, all of it in blocks below N. -/
inductive TreeAt (M N : Nat) (w : World) : Array Value → RT → Prop
  | mk (kd : Int) (c : UInt8) (nm : List UInt8) (n : Nat) (fl : Bool) (a : Option Addr) (m cap : Nat) (V : Nat → Array Value) (ks : List RT) (hn : n < 18446744073709551616) (hk : ks.length = m) (hc : m ≤ cap ∧ cap ≤ maxLen) (hnm : nm.length ≤ M ∧ m ≤ M)
      (hV : KidsIn N w a m V) (hT : ∀ i (h : i < ks.length), TreeAt M N w (V i) ks[i]) : TreeAt M N w (rv kd c nm n fl (.slice a m cap)) (.mk kd c nm n fl ks)

theorem KidsIn.mono {N N' : Nat} {w w' : World} {a : Option Addr} {m : Nat} {V : Nat → Array Value} (h : KidsIn N w a m V) (hN : N ≤ N') (hw : ∀ k, k < N → w'.heap[k]? = w.heap[k]?) : KidsIn N' w' a m V := by
  intro hm
  obtain ⟨b, off, h1, h2, h3⟩ := h hm
  refine ⟨b, off, h1, by omega, fun i hi => ⟨(h3 i hi).1, fun j hj => ?_⟩⟩
  rw [← (h3 i hi).2 j hj]
  simp only [World.cell?, hw b h2]
theorem TreeAt.mono {M N N' : Nat} {w w' : World} {v : Array Value} {t : RT} (h : TreeAt M N w v t) (hN : N ≤ N') (hw : ∀ k, k < N → w'.heap[k]? = w.heap[k]?) : TreeAt M N' w' v t := by
  induction h with
  | mk kd c nm n fl a m cap V ks hn hk hc hnm hV _ ih => exact .mk kd c nm n fl a m cap V ks hn hk hc hnm (hV.mono hN hw) ih
theorem TreeAt.stays {M N : Nat} {w w' : World} {v : Array Value} {t : RT} (h : TreeAt M N w v t) {B : Nat} (hb : Below B w w') (hN : N ≤ B) : TreeAt M N w' v t :=
  h.mono (Nat.le_refl _) fun k hk => hb.block k (by omega)

theorem cellsTree : Tryz.prog.cellsOf tTree = 6 := by kernel_rfl
theorem cellsK : Tryz.prog.cellsOf 3 = 1 ∧ Tryz.prog.cellsOf 5 = 1 ∧ Tryz.prog.cellsOf 9 = 1 ∧ Tryz.prog.cellsOf 22 = 1 ∧ Tryz.prog.cellsOf 4 = 1 ∧ Tryz.prog.cellsOf tTrees = 1 := by
  refine ⟨?_, ?_, ?_, ?_, ?_, ?_⟩ <;> kernel_rfl
theorem underTree : ∃ fs, Tryz.prog.underlying tTree = some (.struct fs) ∧ fs.toList.map (fun (f : Field) => (f.type, f.offset)) = [(3, 0), (5, 1), (9, 2), (22, 3), (4, 4), (tTrees, 5)] := by
  have h : ((Tryz.prog.underlying tTree).map fun u => match u with | .struct fs => fs.toList.map (fun (f : Field) => (f.type, f.offset)) | _ => []) = some [(3, 0), (5, 1), (9, 2), (22, 3), (4, 4), (tTrees, 5)] := by kernel_rfl
  obtain ⟨u, hu, he⟩ := Option.map_eq_some_iff.1 h
  cases u <;> simp at he
  exact ⟨_, hu, he⟩

section
variable {H : Type} {enc : TypeId × Value → H} {W : World} {held : Bool}

theorem field_at {fs : Array Field} {l : List (TypeId × Nat)} (h : fs.toList.map (fun (f : Field) => (f.type, f.offset)) = l) (i : Nat) (p : TypeId × Nat) (hi : l[i]? = some p) : ∃ f, fs[i]? = some f ∧ f.type = p.1 ∧ f.offset = p.2 := by
  subst h
  simp only [List.getElem?_map, Option.map_eq_some_iff, Array.getElem?_toList] at hi
  obtain ⟨f, hf, rfl⟩ := hi
  exact ⟨f, hf, rfl, rfl⟩

theorem cell_lt {w : World} {a : Addr} {v : Value} (h : w.cell? a = some v) : a.block < w.heap.size := by
  rcases Nat.lt_or_ge a.block w.heap.size with h' | h'
  · exact h'
  · simp [World.cell?, Array.getElem?_eq_none h'] at h

set_option maxRecDepth 100000 in
set_option maxHeartbeats 1000000 in
/-- What is read as a tree is one (Bk: a bound that goes down to the parts). -/
theorem open_tree {M : Nat} {Bk : DataW H → Prop} (bA : ∀ l, Bk (.agg l) → ∀ d ∈ l, Bk d) (bS : ∀ l s, Bk (.slice l s) → l.length ≤ maxLen → l.length ≤ M ∧ ∀ d ∈ l, Bk d) (bT : ∀ l, Bk (.lit (.string l)) → l.length ≤ maxLen → l.length ≤ M) :
    ∀ (fuel : Nat) (cs : List Value) (x : DataW H × List MemPlace), DataW.trod enc Tryz.prog W 0 (fun _ => true) held fuel tTree cs = some x → Bk x.1 → ∃ t, TreeAt M W.heap.size W cs.toArray t := by
  intro fuel
  induction fuel using Nat.strongRecOn with
  | _ fuel ih =>
    intro cs x h hbk
    obtain ⟨fs, hu, hfs⟩ := underTree
    obtain ⟨xs, n, rfl, rfl, hlen, hxl, hall⟩ := DataW.trod_struct hu h
    rw [cellsTree] at hlen
    match cs, hlen with
    | [c0, c1, c2, c3, c4, c5], _ =>
    have hx : ∀ (i : Nat) (p : TypeId × Nat), ([(3, 0), (5, 1), (9, 2), (22, 3), (4, 4), (tTrees, 5)] : List (TypeId × Nat))[i]? = some p → ∃ y, DataW.trod enc Tryz.prog W 0 (fun _ => true) held n p.1 (([c0, c1, c2, c3, c4, c5].drop p.2).take (Tryz.prog.cellsOf p.1)) = some y ∧ Bk y.1 := by
      intro i p hp
      obtain ⟨f, hf, rfl', rfl''⟩ := field_at hfs i p hp
      have := hall i f hf
      rw [rfl', rfl''] at this
      have hi : i < xs.length := by rw [hxl]; exact (Array.getElem?_eq_some_iff.1 hf).1
      rw [List.getElem?_eq_getElem hi] at this
      exact ⟨_, this, bA _ hbk _ (List.mem_map_of_mem (List.getElem_mem hi))⟩
    obtain ⟨k1, k2, k3, k4, k5, k6⟩ := cellsK
    obtain ⟨y0, h0, g0⟩ := hx 0 _ rfl
    obtain ⟨y1, h1, g1⟩ := hx 1 _ rfl
    obtain ⟨y2, h2, g2⟩ := hx 2 _ rfl
    obtain ⟨y3, h3, g3⟩ := hx 3 _ rfl
    obtain ⟨y4, h4, g4⟩ := hx 4 _ rfl
    obtain ⟨y5, h5, g5⟩ := hx 5 _ rfl
    clear hx hall
    simp only [k1, k2, k3, k4, k5, k6, List.drop_succ_cons, List.drop_zero, List.take_succ_cons, List.take_zero] at h0 h1 h2 h3 h4 h5
    obtain ⟨kd, e0, _, _⟩ := DataW.trod_int Tryz.underlying3 h0
    obtain ⟨z1, e1, _, w1⟩ := DataW.trod_int Tryz.underlying5 h1
    obtain ⟨s, e2, x2, hs⟩ := DataW.trod_string Tryz.underlying9 h2
    obtain ⟨z3, e3, _, w3⟩ := DataW.trod_int Tryz.underlying22 h3
    obtain ⟨fl, e4, _⟩ := DataW.trod_bool Tryz.underlying4 h4
    simp only [List.cons.injEq, and_true] at e0 e1 e2 e3 e4
    subst e0; subst e1; subst e2; subst e3; subst e4
    have b1 := bounds_u8 w1
    have b3 := bounds_u64 w3
    obtain ⟨c, hc⟩ : ∃ c : UInt8, z1 = c.toNat := ⟨UInt8.ofNat z1.toNat, by rw [UInt8.toNat_ofNat_of_lt' (by show z1.toNat < 256; omega)]; omega⟩
    obtain ⟨m3, hm3⟩ : ∃ m : Nat, z3 = m := ⟨z3.toNat, by omega⟩
    subst hc; subst hm3
    have hsb : s = bs s.data.toList := (bs_of s).symm
    have hsz : s.data.toList.length ≤ M := bT _ (by rw [x2] at g2; exact g2) (by rw [Array.length_toList]; exact hs)
    obtain ⟨nm, hnm⟩ : ∃ nm, nm = s.data.toList := ⟨_, rfl⟩
    rw [← hnm] at hsb hsz
    subst hsb
    rcases DataW.trod_slice Tryz.underlying23 h5 with ⟨e5, _⟩ | ⟨a, len, cap, elems, rest, n', rfl, e5, x5, _, hl, hm, hel, hE, _, _⟩
    · simp only [List.cons.injEq, and_true] at e5
      subst e5
      exact ⟨.mk kd c nm m3 fl [], .mk kd c nm m3 fl none 0 0 (fun _ => #[]) [] (by omega) rfl ⟨Nat.le_refl _, Nat.zero_le _⟩ ⟨hsz, Nat.zero_le _⟩ (fun h => absurd h (by omega)) (fun i h => absurd h (by simp))⟩
    · simp only [List.cons.injEq, and_true] at e5
      subst e5
      rw [x5] at g5
      obtain ⟨hlM, hbE⟩ := bS _ _ g5 (by rw [List.length_map, hel]; omega)
      rw [List.length_map, hel] at hlM
      have hk : ∀ i, i < len → ∃ cs', W.cells? 0 (a.add (i * 6)) 6 = some cs' ∧ ∃ t, TreeAt M W.heap.size W cs'.toArray t := by
        intro i hi
        have := hE i hi
        rw [List.getElem?_eq_getElem (by omega), cellsTree] at this
        obtain ⟨cs', h1, h2⟩ := Option.bind_eq_some_iff.1 this
        exact ⟨cs', h1, ih n' (by omega) cs' _ h2 (hbE _ (List.mem_map_of_mem (List.getElem_mem (by omega))))⟩
      obtain ⟨V, hV⟩ := Go.Deep.choose_lt (α := List Value) (p := fun i cs' => W.cells? 0 (a.add (i * 6)) 6 = some cs' ∧ ∃ t, TreeAt M W.heap.size W cs'.toArray t) hk
      obtain ⟨T, hT⟩ := Go.Deep.choose_lt (α := RT) (p := fun i t => TreeAt M W.heap.size W (V i).toArray t) (fun i hi => (hV i hi).2)
      refine ⟨.mk kd c nm m3 fl ((List.range len).map T), .mk kd c nm m3 fl (some a) len cap (fun i => (V i).toArray) _ (by omega) (by simp) ⟨hl, hm⟩ ⟨hsz, hlM⟩ ?_ ?_⟩
      · intro h0
        obtain ⟨b, off, spot⟩ := a
        have hcell := fun i hi => World.cells?_some (hV i hi).1
        have hspot : spot = none := by
          obtain ⟨_, hl6, hc6⟩ := hcell 0 h0
          have := hc6 0 (by omega)
          rw [List.getElem?_eq_getElem (by omega), Nat.zero_mul] at this
          exact World.cell?_spot (a := ⟨b, off, spot⟩) this
        subst hspot
        refine ⟨b, off, rfl, ?_, fun i hi => ?_⟩
        · obtain ⟨_, hl6, hc6⟩ := hcell 0 h0
          have := hc6 0 (by omega)
          rw [List.getElem?_eq_getElem (by omega), Nat.zero_mul] at this
          exact cell_lt (a := ⟨b, off, none⟩) this
        · obtain ⟨_, hl6, hc6⟩ := hcell i hi
          refine ⟨by simpa using hl6, fun j hj => ?_⟩
          have := hc6 j (by omega)
          rw [WideShapes.add_plain, WideShapes.add_plain] at this
          simpa using this
      · intro i hi
        simp at hi ⊢
        exact hT i hi
end
end Go.Proofs.YtidokamjbglkbaaGreatDoor

