/- The reader's block with its buffer's address and value in sight. -/
import Derived.Test.YtlpbhfmhndhbkaaGreatDoorBase
import Derived.Test.YtlpbhfmhndhbkaaGreatDoorRows
import Derived.Lib.ItoaMem
namespace Go.Proofs.YtlpbhfmhndhbkaaGreatDoor
open Go.RowKit

/-- What the package-level variables hold where the call begins. -/
structure TabsAt (W : World) : Prop where
  pow10 : Lib.TabIs Tryz.prog W "internal/strconv.uint64pow10" .u64 Lib.pow10Tab
  rest : ∃ L, laidMet Tryz.prog L W ∧ ("loop.example/pub-g01453/pub/rustdemangle.rustBasicTypes", Rows.laid_loop_example_pub_g01453_pub_rustdemangle_rustBasicTypes) ∈ L ∧
    ("unicode/utf8.first", Rows.laid_unicode_utf8_first) ∈ L ∧ ("unicode/utf8.acceptRanges", Rows.laid_unicode_utf8_acceptRanges) ∈ L

/-- In w they are as they were. -/
def Tabs (B : Nat) (w : World) : Prop := ∃ W : World, TabsAt W ∧ W.heap.size ≤ B ∧ ∀ k, k < W.heap.size → w.heap[k]? = W.heap[k]?
theorem Tabs.same {B : Nat} {w w' : World} (h : Tabs B w) (hs : ∀ k, k < B → w'.heap[k]? = w.heap[k]?) : Tabs B w' := by
  obtain ⟨W, h1, h2, h3⟩ := h
  exact ⟨W, h1, h2, fun k hk => (hs k (by omega)).trans (h3 k hk)⟩

/-- A listed table is the same in a later world. -/
theorem tabIs_same {P : Program} {w w' : World} {name : String} {k : IntKind} {zs : List Int} (h : Lib.TabIs P w name k zs) (hs : ∀ i, i < w.heap.size → w'.heap[i]? = w.heap[i]?) : Lib.TabIs P w' name k zs := by
  unfold Lib.TabIs World.var? at *
  cases hg : P.globalNamed name with
  | none => simp [hg] at h
  | some g =>
    simp only [hg, Option.bind_some] at h ⊢
    have hlt : g < w.heap.size := by
      rcases Nat.lt_or_ge g w.heap.size with h' | h'
      · exact h'
      · rw [Array.getElem?_eq_none h'] at h; simp at h
    rw [hs g hlt]
    exact h
theorem Tabs.pow10 {B : Nat} {w : World} (h : Tabs B w) : Lib.TabIs Tryz.prog w "internal/strconv.uint64pow10" .u64 Lib.pow10Tab := by
  obtain ⟨W, h1, h2, h3⟩ := h
  exact tabIs_same h1.pow10 h3

/-- The reader lies in block b, its buffer in a row of its own, both from block B on. -/
structure RstV (B b : Nat) (r : RS) (ad buf : Value) (w : World) : Prop where
  hB : B ≤ b
  hw : B ≤ w.heap.size
  len : r.off + r.str.length ≤ 1000000000
  tab : Tabs B w
  heap : w.heap[b]? = some (.cells (r.cs ad buf) tR (0, 0))
  addr : (ad = .pointer none ∧ r.out = []) ∨ ad = .pointer (some ⟨b, 3, none⟩)
  own : w.ownsRow B tB 1 buf r.out.length (bv r.out)

def Rst (B b : Nat) (r : RS) (w : World) : Prop := ∃ ad buf, RstV B b r ad buf w
theorem Rst.open {B b : Nat} {r : RS} {w : World} (h : Rst B b r w) : ∃ ad buf, RstV B b r ad buf w := h
theorem Rst.len {B b : Nat} {r : RS} {w : World} (h : Rst B b r w) : r.off + r.str.length ≤ 1000000000 := by obtain ⟨ad, buf, h⟩ := h; exact h.len
theorem Rst.tab {B b : Nat} {r : RS} {w : World} (h : Rst B b r w) : Tabs B w := by obtain ⟨ad, buf, h⟩ := h; exact h.tab
theorem Rst.hB {B b : Nat} {r : RS} {w : World} (h : Rst B b r w) : B ≤ b := by obtain ⟨ad, buf, h⟩ := h; exact h.hB
theorem Rst.hw {B b : Nat} {r : RS} {w : World} (h : Rst B b r w) : B ≤ w.heap.size := by obtain ⟨ad, buf, h⟩ := h; exact h.hw
theorem Rst.lt {B b : Nat} {r : RS} {w : World} (h : Rst B b r w) : b < w.heap.size := by
  obtain ⟨ad, buf, h⟩ := h
  exact (Array.getElem?_eq_some_iff.1 h.heap).1
theorem Rst.kind {B b : Nat} {r : RS} {w : World} (h : Rst B b r w) : kindOf w.heap[b]? = some tR := by
  obtain ⟨ad, buf, h⟩ := h
  rw [h.heap]; rfl

section
variable {B b : Nat} {r : RS} {ad buf : Value} {w : World}
theorem RstV.rst (h : RstV B b r ad buf w) : Rst B b r w := ⟨ad, buf, h⟩
theorem RstV.c0 (h : RstV B b r ad buf w) : w.cell? ⟨b, 0, none⟩ = some (.string (bs r.orig)) := by rw [cellAt h.heap]; rfl
theorem RstV.c1 (h : RstV B b r ad buf w) : w.cell? ⟨b, 1, none⟩ = some (.string (bs r.str)) := by rw [cellAt h.heap]; rfl
theorem RstV.c2 (h : RstV B b r ad buf w) : w.cell? ⟨b, 2, none⟩ = some (.int .i64 r.off) := by rw [cellAt h.heap]; rfl
theorem RstV.c3 (h : RstV B b r ad buf w) : w.cell? ⟨b, 3, none⟩ = some ad := by rw [cellAt h.heap]; rfl
theorem RstV.c4 (h : RstV B b r ad buf w) : w.cell? ⟨b, 4, none⟩ = some buf := by rw [cellAt h.heap]; rfl
theorem RstV.c5 (h : RstV B b r ad buf w) : w.cell? ⟨b, 5, none⟩ = some (.bool r.skip) := by rw [cellAt h.heap]; rfl
theorem RstV.c6 (h : RstV B b r ad buf w) : w.cell? ⟨b, 6, none⟩ = some (.int .i64 r.life) := by rw [cellAt h.heap]; rfl
theorem RstV.c7 (h : RstV B b r ad buf w) : w.cell? ⟨b, 7, none⟩ = some (.int .u8 r.last) := by rw [cellAt h.heap]; rfl
theorem RstV.c8 (h : RstV B b r ad buf w) : w.cell? ⟨b, 8, none⟩ = some (.bool false) := by rw [cellAt h.heap]; rfl
theorem RstV.c9 (h : RstV B b r ad buf w) : w.cell? ⟨b, 9, none⟩ = some (.int .i64 0) := by rw [cellAt h.heap]; rfl
theorem RstV.fz (h : RstV B b r ad buf w) (j : Nat) : w.frozen? ⟨b, j, none⟩ = false := Lib.frozen_of_heap h.heap j
theorem RstV.kind (h : RstV B b r ad buf w) : kindOf w.heap[b]? = some tR := by rw [h.heap]; rfl
theorem RstV.drew (h : RstV B b r ad buf w) : RstV B b r ad buf w.drew := ⟨h.hB, h.hw, h.len, h.tab, h.heap, h.addr, h.own⟩
theorem RstV.drewN (h : RstV B b r ad buf w) (n : Nat) : RstV B b r ad buf (w.drewN n) := ⟨h.hB, h.hw, h.len, h.tab, h.heap, h.addr, h.own⟩

theorem RstV.put {j : Nat} {v : Value} (h : RstV B b r ad buf w) (r' : RS) (hc : (r.cs ad buf).setIfInBounds j v = r'.cs ad buf) (ho : r'.out = r.out) (hl : r'.off + r'.str.length ≤ 1000000000) :
    RstV B b r' ad buf (w.setCell ⟨b, j, none⟩ v) := by
  refine ⟨h.hB, by simpa [World.setCell] using h.hw, hl, h.tab.same (fun k hk => Below.heap_setCell _ _ _ _ (by have := h.hB; simp; omega)), by rw [setCell_heap h.heap, hc], by rw [ho]; exact h.addr, ?_⟩
  rw [ho]
  refine h.own.kept (row := some b) ⟨rfl, rfl, rfl, by simp [World.setCell], fun k _ hk => Below.heap_setCell _ _ _ _ (fun e => hk (by simp [e]))⟩ ?_
  exact .inr (Lib.ownBlock_ne h.own h.heap (by decide))

theorem RstV.setStr (h : RstV B b r ad buf w) (s : List UInt8) (hl : r.off + s.length ≤ 1000000000) : RstV B b { r with str := s } ad buf (w.setCell ⟨b, 1, none⟩ (.string (bs s))) := h.put _ rfl rfl hl
theorem RstV.setOff (h : RstV B b r ad buf w) (n : Nat) {i : Int} (hi : i = n) (hl : n + r.str.length ≤ 1000000000) : RstV B b { r with off := n } ad buf (w.setCell ⟨b, 2, none⟩ (.int .i64 i)) := by subst hi; exact h.put _ rfl rfl hl
theorem RstV.setSkip (h : RstV B b r ad buf w) (x : Bool) : RstV B b { r with skip := x } ad buf (w.setCell ⟨b, 5, none⟩ (.bool x)) := h.put _ rfl rfl h.len
theorem RstV.setLife (h : RstV B b r ad buf w) (n : Nat) {i : Int} (hi : i = n) : RstV B b { r with life := n } ad buf (w.setCell ⟨b, 6, none⟩ (.int .i64 i)) := by subst hi; exact h.put _ rfl rfl h.len
theorem RstV.setLast (h : RstV B b r ad buf w) (n : Nat) {i : Int} (hi : i = n) : RstV B b { r with last := n } ad buf (w.setCell ⟨b, 7, none⟩ (.int .u8 i)) := by subst hi; exact h.put _ rfl rfl h.len

theorem RstV.alloc (h : RstV B b r ad buf w) (o : Obj) : RstV B b r ad buf (w.alloc o) :=
  ⟨h.hB, by have := h.hw; simp; omega, h.len, h.tab.same (fun k hk => Below.heap_alloc _ _ _ (by have := h.hw; omega)), (Below.heap_alloc _ _ _ h.rst.lt).trans h.heap, h.addr, h.own.alloc o⟩

/-- A store into another block that is no row of bytes. -/
theorem RstV.setCell_other (h : RstV B b r ad buf w) (p : Addr) (u : Value) (hpB : B ≤ p.block) (hp : p.block ≠ b) (hk : kindOf w.heap[p.block]? ≠ some tB) : RstV B b r ad buf (w.setCell p u) := by
  obtain ⟨h1, h2, hl, ht, hb, h3, h4⟩ := h
  refine ⟨h1, by simpa [World.setCell] using h2, hl, ht.same (fun k hk => Below.heap_setCell _ _ _ _ (by omega)), (Below.heap_setCell _ _ _ _ (Ne.symm hp)).trans hb, h3, ?_⟩
  obtain ⟨h5, h6⟩ := h4
  refine ⟨h5, ?_⟩
  rcases h6 with h6 | ⟨g, cap, cur, hv, hg, hh, hr⟩
  · exact .inl h6
  · refine .inr ⟨g, cap, cur, hv, hg, ?_, hr⟩
    rw [Below.heap_setCell _ _ _ _ (fun e => hk (by rw [← e, hh]; rfl))]; exact hh

theorem RstV.keeps {a : World} (h : RstV B b r ad buf w) (k : Kept B a w) (j : Nat) (v : Value) : Kept B a (w.setCell ⟨b, j, none⟩ v) :=
  k.setCell (p := ⟨b, j, none⟩) (.inr ⟨h.hB, h.kind⟩) v
end

theorem Rst.drew {B b : Nat} {r : RS} {w : World} (h : Rst B b r w) : Rst B b r w.drew := by obtain ⟨ad, buf, h⟩ := h; exact h.drew.rst
theorem Rst.drewN {B b : Nat} {r : RS} {w : World} (h : Rst B b r w) (n : Nat) : Rst B b r (w.drewN n) := by obtain ⟨ad, buf, h⟩ := h; exact (h.drewN n).rst
theorem Rst.alloc {B b : Nat} {r : RS} {w : World} (h : Rst B b r w) (o : Obj) : Rst B b r (w.alloc o) := by obtain ⟨ad, buf, h⟩ := h; exact (h.alloc o).rst
theorem Rst.setCell_other {B b : Nat} {r : RS} {w : World} (h : Rst B b r w) (p : Addr) (u : Value) (hpB : B ≤ p.block) (hp : p.block ≠ b) (hk : kindOf w.heap[p.block]? ≠ some tB) : Rst B b r (w.setCell p u) := by
  obtain ⟨ad, buf, h⟩ := h; exact (h.setCell_other p u hpB hp hk).rst
theorem Rst.cast {B b : Nat} {r r' : RS} {w : World} (h : Rst B b r w) (e : r = r') : Rst B b r' w := e ▸ h

/-- What is written. -/
def RS.wr (r : RS) (l : List UInt8) : RS :=
  { r with out := if r.skip then r.out else r.out ++ l, last := if r.skip then r.last else (l.getLast?.map UInt8.toNat).getD r.last }

theorem RS.wr_skip (r : RS) (l : List UInt8) (h : r.skip = true) : r.wr l = r := by cases r; simp_all [RS.wr]
theorem RS.wr_say (r : RS) (l : List UInt8) (h : r.skip = false) : r.wr l = { r with out := r.out ++ l, last := (l.getLast?.map UInt8.toNat).getD r.last } := by simp [RS.wr, h]

end Go.Proofs.YtlpbhfmhndhbkaaGreatDoor
