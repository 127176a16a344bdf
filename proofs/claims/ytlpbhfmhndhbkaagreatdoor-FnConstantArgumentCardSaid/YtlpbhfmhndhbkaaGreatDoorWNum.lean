/- A constant, written; spelled; a piece. -/
import Derived.Test.YtlpbhfmhndhbkaaGreatDoorNumText
namespace Go.Proofs.YtlpbhfmhndhbkaaGreatDoor
open Go.RowKit

/-- A tree's block stays where a writer writes. -/
theorem KeptM.tree {B k : Nat} {w w' : World} {cs : Array Value} (h : KeptM MW B w w') (hk : w.heap[k]? = some (.cells cs tRu (0, 0))) : w'.heap[k]? = some (.cells cs tRu (0, 0)) := by
  rw [h.block k (Array.getElem?_eq_some_iff.1 hk).1 (.inr ?_)]
  · exact hk
  · rw [hk]
    intro t ht e
    have : tRu = t := Option.some.inj e
    subst this
    exact absurd ht (by decide)
theorem Wr.alloc {B b : Nat} {r : WR} {w : World} (h : Wr B b r w) (o : Obj) : Wr B b r (w.alloc o) := by
  obtain ⟨vo, vt, vm, vb, ts, ms, h⟩ := h; exact (h.alloc o).wr
theorem Wr.drewN {B b : Nat} {r : WR} {w : World} (h : Wr B b r w) (n : Nat) : Wr B b r (w.drewN n) := by
  obtain ⟨vo, vt, vm, vb, ts, ms, h⟩ := h; exact (h.drewN n).wr
theorem Wr.hB {B b : Nat} {r : WR} {w : World} (h : Wr B b r w) : B ≤ w.heap.size := by
  obtain ⟨vo, vt, vm, vb, ts, ms, h⟩ := h; exact h.hw
theorem Wr.lt {B b : Nat} {r : WR} {w : World} (h : Wr B b r w) : b < w.heap.size := by
  obtain ⟨vo, vt, vm, vb, ts, ms, h⟩ := h; exact h.lt
theorem Wr.cast {B b : Nat} {r r' : WR} {w : World} (h : Wr B b r w) (e : r = r') : Wr B b r' w := e ▸ h
theorem WR.put_plain (r : WR) (l : List UInt8) (he : r.empty = false) : r.put l = { r with out := r.out ++ l, empty := false } := by
  unfold WR.put
  by_cases h : l = []
  · subst h; cases r; simp at he; subst he; simp
  · rw [if_neg h]; simp [sepOf, he]

set_option maxHeartbeats 2000000 in
set_option maxRecDepth 100000 in
theorem write_hole (B b : Nat) (r : WR) (c : UInt8) (nm : List UInt8) (n : Nat) (fl : Bool) (ks : Value) (w : World) (h : Wr B b r w) (hl : r.out.length + 2 ≤ 1000000000) :
    Calls Tryz.prog 25 #[.pointer (some ⟨b, 0, none⟩), .agg (rv 21 c nm n fl ks)] w fun e w' => e = .returned (.tuple #[]) ∧ Wr B b (r.put [112]) w' ∧ KeptM MW B w w' := by
  have H := Lib.hid h
  clear h
  go_enter Tryz.func25, Tryz.ntmps25
  go_wp2_with (first
    | (go_at_call 18; refine (isPath_any _ _).mono ?_; rintro e w' ⟨rfl, rfl⟩)
    | (go_at_call 28; refine (put_any B b r [112] _ ((Wr.alloc H.out) _) (by simp; omega)).mono ?_))
  rintro e w' ⟨rfl, h1, k⟩
  go_wp2
  go_end0
  exact ⟨rfl, h1, ((KeptM.refl w).alloc _).trans k⟩

/-- A block of a tree, new. -/
theorem tree_new (w : World) (cs : Array Value) : (w.alloc (.cells cs tRu)).heap[w.heap.size]? = some (.cells cs tRu (0, 0)) := heap_alloc_new w _

set_option maxHeartbeats 4000000 in
set_option maxRecDepth 100000 in
theorem write_num (B b : Nat) (r : WR) (c : UInt8) (nm : List UInt8) (n : Nat) (fl : Bool) (ks : Value) (hn : n < 18446744073709551616) (w : World) (h : Wr B b r w) (hl : r.out.length + 40 ≤ 1000000000) :
    Calls Tryz.prog 25 #[.pointer (some ⟨b, 0, none⟩), .agg (rv 20 c nm n fl ks)] w fun e w' => e = .returned (.tuple #[]) ∧ Wr B b (((r.put [c]).put (negCode fl)).put (h16 n ++ [95])) w' ∧ KeptM MW B w w' := by
  have H := Lib.hid ((h.alloc (.cells (rv 20 c nm n fl ks) tRu)).alloc (.cells #[.int .u8 c.toNat] tB))
  have K := Lib.hid (((KeptM.refl (M := MW) (B := B) w).alloc (.cells (rv 20 c nm n fl ks) tRu)).alloc (.cells #[.int .u8 c.toNat] tB))
  have T := Lib.hid ((Below.heap_alloc (w.alloc (.cells (rv 20 c nm n fl ks) tRu)) (.cells #[.int .u8 c.toNat] tB) w.heap.size (by simp)).trans (tree_new w (rv 20 c nm n fl ks)))
  have q := conv1k (w.alloc (.cells (rv 20 c nm n fl ks) tRu)) (w.heap.size + 1) (by simp) c c.toNat rfl
  have PL : ∀ (r : WR) (l : List UInt8), (r.put l).out.length ≤ r.out.length + l.length + 1 := by
    intro r l
    unfold WR.put
    split
    · omega
    · simp only [List.length_append, sepOf]
      split <;> simp <;> omega
  have HL := h16_len n 15 (by omega)
  have L1 := PL r [c]
  have L2 := PL (r.put [c]) (negCode fl)
  have L3 : (negCode fl).length ≤ 1 := by cases fl <;> simp [negCode]
  simp only [List.length_cons, List.length_nil] at L1
  have S1 := Lib.hid (show r.out.length + [c].length + 1 ≤ 1000000000 by simp; omega)
  have S2 := Lib.hid (show (r.put [c]).out.length + (negCode fl).length + 1 ≤ 1000000000 by omega)
  have S3 := Lib.hid (show ((r.put [c]).put (negCode fl)).out.length + (h16 n ++ [95]).length + 1 ≤ 1000000000 by simp; omega)
  have HX := Lib.hid (fun w => hex_any n hn w)
  have hm : ¬ 9223372036854775807 < (h16 n).length + 1 := by omega
  have eb : bs (h16 n) ++ (⟨#[95]⟩ : ByteArray) = bs (h16 n ++ [95]) := by rw [← bs_append]; rfl
  clear h PL HL L1 L2 L3 hl hn
  cases fl with
  | false =>
    go_enter Tryz.func25, Tryz.ntmps25
    go_wp2_with (first
      | (go_at_call 18; refine (isPath_any _ _).mono ?_; rintro e w' ⟨rfl, rfl⟩)
      | (go_at_call 28; refine (put_any B b r [c] _ H.out S1.out).mono ?_))
    rintro e w1 ⟨rfl, h1, k1⟩
    have t1 := k1.tree T.out
    have a3 : w1.cell? ⟨w.heap.size, 3, none⟩ = some (.int .u64 n) := by rw [cellAt t1]; rfl
    have a4 : w1.cell? ⟨w.heap.size, 4, none⟩ = some (.bool false) := by rw [cellAt t1]; rfl
    have K1 := Lib.hid (K.out.trans k1)
    have H1 := Lib.hid h1
    clear k1 h1 t1
    go_wp2_with (first
      | (go_at_call 44; refine (HX.out _).mono ?_))
    rintro e w2 ⟨rfl, m, rfl⟩
    go_wp2_with (go_at_call 28; refine (put_any B b _ (h16 n ++ [95]) _ (H1.out.drewN _) S3.out).mono ?_)
    rintro e w2 ⟨rfl, h2, k2⟩
    have K2 := (K1.out.drewN m).trans k2
    go_wp2
    go_end0
    exact ⟨rfl, h2, K2⟩
  | true =>
    go_enter Tryz.func25, Tryz.ntmps25
    go_wp2_with (first
      | (go_at_call 18; refine (isPath_any _ _).mono ?_; rintro e w' ⟨rfl, rfl⟩)
      | (go_at_call 28; refine (put_any B b r [c] _ H.out S1.out).mono ?_))
    rintro e w1 ⟨rfl, h1, k1⟩
    have t1 := k1.tree T.out
    have T1 := Lib.hid t1
    have a4 : w1.cell? ⟨w.heap.size, 4, none⟩ = some (.bool true) := by rw [cellAt t1]; rfl
    have K1 := Lib.hid (K.out.trans k1)
    have H1 := Lib.hid h1
    clear k1 h1 t1
    go_wp2_with (go_at_call 28; refine (put_any B b _ [110] _ H1.out S2.out).mono ?_)
    rintro e w2 ⟨rfl, h2, k2⟩
    have t2 := k2.tree T1.out
    have a3 : w2.cell? ⟨w.heap.size, 3, none⟩ = some (.int .u64 n) := by rw [cellAt t2]; rfl
    have K2 := Lib.hid (K1.out.trans k2)
    have H2 := Lib.hid h2
    clear k2 h2 t2 T1 a4
    go_wp2_with (first
      | (go_at_call 44; refine (HX.out _).mono ?_))
    rintro e w3 ⟨rfl, m, rfl⟩
    go_wp2_with (go_at_call 28; refine (put_any B b _ (h16 n ++ [95]) _ (H2.out.drewN _) S3.out).mono ?_)
    rintro e w4 ⟨rfl, h4, k4⟩
    have K4 := (K2.out.drewN m).trans k4
    go_wp2
    go_end0
    exact ⟨rfl, h4, K4⟩
end Go.Proofs.YtlpbhfmhndhbkaaGreatDoor
