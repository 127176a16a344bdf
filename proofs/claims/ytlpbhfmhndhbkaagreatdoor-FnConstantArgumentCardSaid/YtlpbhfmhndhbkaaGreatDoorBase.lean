/- The memory of the reader: the block of a rustState, what it says, how it is kept. -/
import Derived.Test.YtlpbhfmhndhbkaaGreatDoorProg
import Derived.WalkKit
import Derived.WalkLawsBesides
import Derived.WalkSpells
import Derived.Outline
import Derived.Below
import Derived.KernelRfl
import Derived.Lib.Hide
import Derived.Lib.Builder
import Derived.Lib.AppendStr
import Derived.Lib.UnsafeStr
import Derived.Deep.QuietTactic
import Derived.BigQuiet
import Derived.Deep.DeepFit
namespace Go.Proofs.YtlpbhfmhndhbkaaGreatDoor
open Go.RowKit

/-- The numbers of the types. -/
abbrev tR : TypeId := 82
abbrev tB : TypeId := 5

/-- The bytes of a text, as cells. -/
def bv (l : List UInt8) : List Value := l.map fun c => .int .u8 c.toNat
theorem bv_length (l : List UInt8) : (bv l).length = l.length := by simp [bv]

/-- A text out of its bytes. -/
def bs (l : List UInt8) : ByteArray := ⟨l.toArray⟩
@[simp] theorem bs_size (l : List UInt8) : (bs l).size = l.length := by simp [bs, ByteArray.size]
@[simp] theorem bs_list (l : List UInt8) : (bs l).data.toList = l := rfl
theorem bs_of (s : ByteArray) : bs s.data.toList = s := by cases s; simp [bs]
theorem bs_inj {l m : List UInt8} (h : bs l = bs m) : l = m := by rw [← bs_list l, h, bs_list]
@[simp] theorem bs_get (l : List UInt8) (i : Nat) (h : i < (bs l).size) : (bs l)[i] = l[i]'(by simpa using h) := rfl
theorem bs_extract (l : List UInt8) (a b : Nat) : (bs l).extract a b = bs ((l.drop a).take (b - a)) := by
  have : ((bs l).extract a b).data.toList = (bs ((l.drop a).take (b - a))).data.toList := by
    rw [bs_list, ByteArray.data_extract]
    simp only [Array.toList_extract, bs]
  rw [← bs_of ((bs l).extract a b), this, bs_list]
@[simp] theorem bs_drop (l : List UInt8) (a : Nat) : (bs l).extract a l.length = bs (l.drop a) := by
  rw [bs_extract, List.take_of_length_le (by simp)]
@[simp] theorem bs_take (l : List UInt8) (a : Nat) : (bs l).extract 0 a = bs (l.take a) := by
  rw [bs_extract]; simp
theorem bs_append (l m : List UInt8) : bs l ++ bs m = bs (l ++ m) := by
  rw [← bs_of (bs l ++ bs m)]; simp [bs]

/-- What a reader holds. -/
structure RS where
  orig : List UInt8
  str : List UInt8
  off : Nat
  out : List UInt8
  skip : Bool
  life : Nat
  last : Nat

/-- Its cells. -/
def RS.cs (r : RS) (ad buf : Value) : Array Value :=
  #[.string (bs r.orig), .string (bs r.str), .int .i64 r.off, ad, buf, .bool r.skip, .int .i64 r.life, .int .u8 r.last, .bool false, .int .i64 0]

/-- What a block is made of. -/
def kindOf (o : Option Obj) : Option TypeId := match o with
  | some (.cells _ t _) => some t
  | _ => none

/-- What a call of the reader leaves alone: what lies below B, and whatever is neither a reader nor bytes. -/
structure Kept (B : Nat) (w w' : World) : Prop where
  os : w'.os = w.os
  tape : w'.tape = w.tape
  output : w'.output = w.output
  size : w.heap.size ≤ w'.heap.size
  block : ∀ k, k < w.heap.size → (k < B ∨ (kindOf w.heap[k]? ≠ some tR ∧ kindOf w.heap[k]? ≠ some tB)) → w'.heap[k]? = w.heap[k]?

theorem Kept.refl (B : Nat) (w : World) : Kept B w w := ⟨rfl, rfl, rfl, Nat.le_refl _, fun _ _ _ => rfl⟩

theorem Kept.trans {B : Nat} {a b c : World} (h : Kept B a b) (k : Kept B b c) : Kept B a c :=
  ⟨k.os.trans h.os, k.tape.trans h.tape, k.output.trans h.output, Nat.le_trans h.size k.size,
   fun i hi hc => (k.block i (Nat.lt_of_lt_of_le hi h.size) (by rw [h.block i hi hc]; exact hc)).trans (h.block i hi hc)⟩

theorem Kept.drew {B : Nat} {a w : World} (h : Kept B a w) : Kept B a w.drew := ⟨h.os, h.tape, h.output, h.size, h.block⟩

theorem Kept.drewN {B : Nat} {a w : World} (h : Kept B a w) (n : Nat) : Kept B a (w.drewN n) := ⟨h.os, h.tape, h.output, h.size, h.block⟩

theorem Kept.alloc {B : Nat} {a w : World} (h : Kept B a w) (o : Obj) : Kept B a (w.alloc o) :=
  h.trans ⟨rfl, rfl, rfl, by simp, fun k hk _ => Below.heap_alloc _ _ _ hk⟩

theorem kindOf_setCell (w : World) (p : Addr) (u : Value) (k : Nat) : kindOf (w.setCell p u).heap[k]? = kindOf w.heap[k]? := by
  simp only [World.setCell, Array.getElem?_modify]
  split
  · cases h : w.heap[k]? with
    | none => rfl
    | some o => cases o <;> rfl
  · rfl

/-- A store into a reader's block, or into a block that is new. -/
theorem Kept.setCell {B : Nat} {a w : World} (h : Kept B a w) {p : Addr} (hp : a.heap.size ≤ p.block ∨ (B ≤ p.block ∧ kindOf w.heap[p.block]? = some tR)) (u : Value) : Kept B a (w.setCell p u) :=
  ⟨h.os, h.tape, h.output, by simpa [World.setCell] using h.size,
   fun k hk hc => by
    have hne : k ≠ p.block := by
      intro e
      rcases hp with hp | ⟨hp, hq⟩
      · omega
      · rw [← e, h.block k hk hc] at hq
        rcases hc with hc | hc
        · omega
        · exact hc.1 hq
    rw [Below.heap_setCell _ _ _ _ hne]; exact h.block k hk hc⟩

theorem Kept.below {B : Nat} {w w' : World} (h : Kept B w w') (hB : B ≤ w.heap.size) : Below B w w' :=
  ⟨h.os, h.tape, h.output, h.size, fun k hk => h.block k (by omega) (.inl hk)⟩

/-- Behind an append: the row that may have been written is one of bytes. -/
theorem Kept.grown {B : Nat} {a w w' : World} {row : Option Nat} (h : Kept B a w) (hg : w.grownBy w' row)
    (hr : ∀ k, row = some k → B ≤ k ∧ kindOf w.heap[k]? = some tB) : Kept B a w' :=
  h.trans ⟨hg.os, hg.tape, hg.output, hg.size,
    fun k hk hc => hg.block k hk (fun e => by
      have := hr k e.symm
      rcases hc with hc | hc
      · omega
      · exact hc.2 this.2)⟩

/-- A cell of a block with its neighbours. -/
theorem cellAt {w : World} {b : Nat} {cs : Array Value} {T : TypeId} {fr : Nat × Nat} (hb : w.heap[b]? = some (.cells cs T fr)) (j : Nat) : w.cell? ⟨b, j, none⟩ = cs[j]? := by
  simp [World.cell?, hb]

theorem setCell_heap {w : World} {b : Nat} {cs : Array Value} {T : TypeId} {fr : Nat × Nat} (hb : w.heap[b]? = some (.cells cs T fr)) (j : Nat) (v : Value) :
    (w.setCell ⟨b, j, none⟩ v).heap[b]? = some (.cells (cs.setIfInBounds j v) T fr) := by
  simp [World.setCell, Array.getElem?_modify, hb]

end Go.Proofs.YtlpbhfmhndhbkaaGreatDoor
