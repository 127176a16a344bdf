/- Trees in memory: what a value holds, how an argument is opened. -/
import Derived.Test.YtlpbhfmhndhbkaaGreatDoorSpec0
import Derived.Test.YtlpbhfmhndhbkaaGreatDoorTree
import Derived.ProofKit
import Derived.OpenShut
import Derived.Deep.Slices
namespace Go.Proofs.YtlpbhfmhndhbkaaGreatDoor
open Go.RowKit

abbrev tTree : TypeId := 25
abbrev tTrees : TypeId := 23

/-- The kids that a slice names lie in w, in a block below N: kid i has the cells V i. -/
def KidsIn (N : Nat) (w : World) (a : Option Addr) (m : Nat) (V : Nat → Array Value) : Prop :=
  0 < m → ∃ b off, a = some ⟨b, off, none⟩ ∧ b < N ∧ ∀ i, i < m → (V i).size = 6 ∧ ∀ j, j < 6 → w.cell? ⟨b, off + i * 6 + j, none⟩ = (V i)[j]?

/-- The cells of a tree, all of it in blocks below N. -/
inductive TreeAt (M N : Nat) (w : World) : Array Value → RT → Prop
  | mk (kd : Int) (c : UInt8) (nm : List UInt8) (n : Nat) (fl : Bool) (a : Option Addr) (m cap : Nat) (V : Nat → Array Value) (ks : List RT) (hn : n < 18446744073709551616) (hk : ks.length = m) (hc : m ≤ cap ∧ cap ≤ maxLen) (hnm : nm.length ≤ M ∧ m ≤ M)
      (hV : KidsIn N w a m V) (hT : ∀ i (h : i < ks.length), TreeAt M N w (V i) ks[i]) : TreeAt M N w (rv kd c nm n fl (.slice a m cap)) (.mk kd c nm n fl ks)

theorem KidsIn.mono {N N' : Nat} {w w' : World} {a : Option Addr} {m : Nat} {V : Nat → Array Value} (h : KidsIn N w a m V) (hN : N ≤ N') (hw : ∀ k, k < N → w'.heap[k]? = w.heap[k]?) : KidsIn N' w' a m V := by
  intro hm
  obtain ⟨b, off, h1, h2, h3⟩ := h hm
  refine ⟨b, off, h1, by omega, fun i hi => ⟨(h3 i hi).1, fun j hj => ?_⟩⟩
  rw [← (h3 i hi).2 j hj]
  simp only [World.cell?, hw b h2]
theorem TreeAt.mono {M N N' : Nat} {w w' : World} {v : Array Value} {t : RT} (h : TreeAt M N w v t) (hN : N ≤ N') (hw : ∀ k, k < N → w'.heap[k]? = w.heap[k]?) : TreeAt M N' w' v t := by
  induction h with
  | mk kd c nm n fl a m cap V ks hn hk hc hnm hV _ ih => exact .mk kd c nm n fl a m cap V ks hn hk hc hnm (hV.mono hN hw) ih
theorem TreeAt.stays {M N : Nat} {w w' : World} {v : Array Value} {t : RT} (h : TreeAt M N w v t) {B : Nat} (hb : Below B w w') (hN : N ≤ B) : TreeAt M N w' v t :=
  h.mono (Nat.le_refl _) fun k hk => hb.block k (by omega)

theorem cellsTree : Tryz.prog.cellsOf tTree = 6 := by kernel_rfl
theorem cellsK : Tryz.prog.cellsOf 3 = 1 ∧ Tryz.prog.cellsOf 5 = 1 ∧ Tryz.prog.cellsOf 9 = 1 ∧ Tryz.prog.cellsOf 22 = 1 ∧ Tryz.prog.cellsOf 4 = 1 ∧ Tryz.prog.cellsOf tTrees = 1 := by
  refine ⟨?_, ?_, ?_, ?_, ?_, ?_⟩ <;> kernel_rfl
theorem underTree : ∃ fs, Tryz.prog.underlying tTree = some (.struct fs) ∧ fs.toList.map (fun (f : Field) => (f.type, f.offset)) = [(3, 0), (5, 1), (9, 2), (22, 3), (4, 4), (tTrees, 5)] := by
  have h : ((Tryz.prog.underlying tTree).map fun u => match u with | .struct fs => fs.toList.map (fun (f : Field) => (f.type, f.offset)) | _ => []) = some [(3, 0), (5, 1), (9, 2), (22, 3), (4, 4), (tTrees, 5)] := by kernel_rfl
  obtain ⟨u, hu, he⟩ := Option.map_eq_some_iff.1 h
  cases u <;> simp at he
  exact ⟨_, hu, he⟩

section
variable {H : Type} {enc : TypeId × Value → H} {W : World} {held : Bool}

theorem field_at {fs : Array Field} {l : List (TypeId × Nat)} (h : fs.toList.map (fun (f : Field) => (f.type, f.offset)) = l) (i : Nat) (p : TypeId × Nat) (hi : l[i]? = some p) : ∃ f, fs[i]? = some f ∧ f.type = p.1 ∧ f.offset = p.2 := by
  subst h
  simp only [List.getElem?_map, Option.map_eq_some_iff, Array.getElem?_toList] at hi
  obtain ⟨f, hf, rfl⟩ := hi
  exact ⟨f, hf, rfl, rfl⟩

theorem cell_lt {w : World} {a : Addr} {v : Value} (h : w.cell? a = some v) : a.block < w.heap.size := by
  rcases Nat.lt_or_ge a.block w.heap.size with h' | h'
  · exact h'
  · simp [World.cell?, Array.getElem?_eq_none h'] at h

set_option maxRecDepth 100000 in
set_option maxHeartbeats 1000000 in
/-- What is read as a tree is one (Bk: a bound that goes down to the parts). -/
theorem open_tree {M : Nat} {Bk : DataW H → Prop} (bA : ∀ l, Bk (.agg l) → ∀ d ∈ l, Bk d) (bS : ∀ l s, Bk (.slice l s) → l.length ≤ maxLen → l.length ≤ M ∧ ∀ d ∈ l, Bk d) (bT : ∀ l, Bk (.lit (.string l)) → l.length ≤ maxLen → l.length ≤ M) :
    ∀ (fuel : Nat) (cs : List Value) (x : DataW H × List MemPlace), DataW.trod enc Tryz.prog W 0 (fun _ => true) held fuel tTree cs = some x → Bk x.1 → ∃ t, TreeAt M W.heap.size W cs.toArray t := by
  intro fuel
  induction fuel using Nat.strongRecOn with
  | _ fuel ih =>
    intro cs x h hbk
    obtain ⟨fs, hu, hfs⟩ := underTree
    obtain ⟨xs, n, rfl, rfl, hlen, hxl, hall⟩ := DataW.trod_struct hu h
    rw [cellsTree] at hlen
    match cs, hlen with
    | [c0, c1, c2, c3, c4, c5], _ =>
    have hx : ∀ (i : Nat) (p : TypeId × Nat), ([(3, 0), (5, 1), (9, 2), (22, 3), (4, 4), (tTrees, 5)] : List (TypeId × Nat))[i]? = some p → ∃ y, DataW.trod enc Tryz.prog W 0 (fun _ => true) held n p.1 (([c0, c1, c2, c3, c4, c5].drop p.2).take (Tryz.prog.cellsOf p.1)) = some y ∧ Bk y.1 := by
      intro i p hp
      obtain ⟨f, hf, rfl', rfl''⟩ := field_at hfs i p hp
      have := hall i f hf
      rw [rfl', rfl''] at this
      have hi : i < xs.length := by rw [hxl]; exact (Array.getElem?_eq_some_iff.1 hf).1
      rw [List.getElem?_eq_getElem hi] at this
      exact ⟨_, this, bA _ hbk _ (List.mem_map_of_mem (List.getElem_mem hi))⟩
    obtain ⟨k1, k2, k3, k4, k5, k6⟩ := cellsK
    obtain ⟨y0, h0, g0⟩ := hx 0 _ rfl
    obtain ⟨y1, h1, g1⟩ := hx 1 _ rfl
    obtain ⟨y2, h2, g2⟩ := hx 2 _ rfl
    obtain ⟨y3, h3, g3⟩ := hx 3 _ rfl
    obtain ⟨y4, h4, g4⟩ := hx 4 _ rfl
    obtain ⟨y5, h5, g5⟩ := hx 5 _ rfl
    clear hx hall
    simp only [k1, k2, k3, k4, k5, k6, List.drop_succ_cons, List.drop_zero, List.take_succ_cons, List.take_zero] at h0 h1 h2 h3 h4 h5
    obtain ⟨kd, e0, _, _⟩ := DataW.trod_int Tryz.underlying3 h0
    obtain ⟨z1, e1, _, w1⟩ := DataW.trod_int Tryz.underlying5 h1
    obtain ⟨s, e2, x2, hs⟩ := DataW.trod_string Tryz.underlying9 h2
    obtain ⟨z3, e3, _, w3⟩ := DataW.trod_int Tryz.underlying22 h3
    obtain ⟨fl, e4, _⟩ := DataW.trod_bool Tryz.underlying4 h4
    simp only [List.cons.injEq, and_true] at e0 e1 e2 e3 e4
    subst e0; subst e1; subst e2; subst e3; subst e4
    have b1 := bounds_u8 w1
    have b3 := bounds_u64 w3
    obtain ⟨c, hc⟩ : ∃ c : UInt8, z1 = c.toNat := ⟨UInt8.ofNat z1.toNat, by rw [UInt8.toNat_ofNat_of_lt' (by show z1.toNat < 256; omega)]; omega⟩
    obtain ⟨m3, hm3⟩ : ∃ m : Nat, z3 = m := ⟨z3.toNat, by omega⟩
    subst hc; subst hm3
    have hsb : s = bs s.data.toList := (bs_of s).symm
    have hsz : s.data.toList.length ≤ M := bT _ (by rw [x2] at g2; exact g2) (by rw [Array.length_toList]; exact hs)
    obtain ⟨nm, hnm⟩ : ∃ nm, nm = s.data.toList := ⟨_, rfl⟩
    rw [← hnm] at hsb hsz
    subst hsb
    rcases DataW.trod_slice Tryz.underlying23 h5 with ⟨e5, _⟩ | ⟨a, len, cap, elems, rest, n', rfl, e5, x5, _, hl, hm, hel, hE, _, _⟩
    · simp only [List.cons.injEq, and_true] at e5
      subst e5
      exact ⟨.mk kd c nm m3 fl [], .mk kd c nm m3 fl none 0 0 (fun _ => #[]) [] (by omega) rfl ⟨Nat.le_refl _, Nat.zero_le _⟩ ⟨hsz, Nat.zero_le _⟩ (fun h => absurd h (by omega)) (fun i h => absurd h (by simp))⟩
    · simp only [List.cons.injEq, and_true] at e5
      subst e5
      rw [x5] at g5
      obtain ⟨hlM, hbE⟩ := bS _ _ g5 (by rw [List.length_map, hel]; omega)
      rw [List.length_map, hel] at hlM
      have hk : ∀ i, i < len → ∃ cs', W.cells? 0 (a.add (i * 6)) 6 = some cs' ∧ ∃ t, TreeAt M W.heap.size W cs'.toArray t := by
        intro i hi
        have := hE i hi
        rw [List.getElem?_eq_getElem (by omega), cellsTree] at this
        obtain ⟨cs', h1, h2⟩ := Option.bind_eq_some_iff.1 this
        exact ⟨cs', h1, ih n' (by omega) cs' _ h2 (hbE _ (List.mem_map_of_mem (List.getElem_mem (by omega))))⟩
      obtain ⟨V, hV⟩ := Go.Deep.choose_lt (α := List Value) (p := fun i cs' => W.cells? 0 (a.add (i * 6)) 6 = some cs' ∧ ∃ t, TreeAt M W.heap.size W cs'.toArray t) hk
      obtain ⟨T, hT⟩ := Go.Deep.choose_lt (α := RT) (p := fun i t => TreeAt M W.heap.size W (V i).toArray t) (fun i hi => (hV i hi).2)
      refine ⟨.mk kd c nm m3 fl ((List.range len).map T), .mk kd c nm m3 fl (some a) len cap (fun i => (V i).toArray) _ (by omega) (by simp) ⟨hl, hm⟩ ⟨hsz, hlM⟩ ?_ ?_⟩
      · intro h0
        obtain ⟨b, off, spot⟩ := a
        have hcell := fun i hi => World.cells?_some (hV i hi).1
        have hspot : spot = none := by
          obtain ⟨_, hl6, hc6⟩ := hcell 0 h0
          have := hc6 0 (by omega)
          rw [List.getElem?_eq_getElem (by omega), Nat.zero_mul] at this
          exact World.cell?_spot (a := ⟨b, off, spot⟩) this
        subst hspot
        refine ⟨b, off, rfl, ?_, fun i hi => ?_⟩
        · obtain ⟨_, hl6, hc6⟩ := hcell 0 h0
          have := hc6 0 (by omega)
          rw [List.getElem?_eq_getElem (by omega), Nat.zero_mul] at this
          exact cell_lt (a := ⟨b, off, none⟩) this
        · obtain ⟨_, hl6, hc6⟩ := hcell i hi
          refine ⟨by simpa using hl6, fun j hj => ?_⟩
          have := hc6 j (by omega)
          rw [WideShapes.add_plain, WideShapes.add_plain] at this
          simpa using this
      · intro i hi
        simp at hi ⊢
        exact hT i hi
end
end Go.Proofs.YtlpbhfmhndhbkaaGreatDoor
