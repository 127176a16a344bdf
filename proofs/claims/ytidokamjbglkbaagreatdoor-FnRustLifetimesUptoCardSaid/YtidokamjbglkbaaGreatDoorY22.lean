/- put. -/
import Derived.Test.YtidokamjbglkbaaGreatDoorY02
import Derived.Test.YtidokamjbglkbaaGreatDoorY08
import Derived.Test.YtidokamjbglkbaaGreatDoorY01
import Derived.Test.YtidokamjbglkbaaGreatDoorY21
import Derived.Lib.BufferRead
namespace Go.Proofs.YtidokamjbglkbaaGreatDoor
open Go.RowKit

/-- What put makes of a writer. -/
def WR.put (r : WR) (l : List UInt8) : WR := if l = [] then r else { r with out := r.out ++ (sepOf r.empty l ++ l), empty := false }

set_option maxHeartbeats 2000000 in
set_option maxRecDepth 100000 in
theorem put_plain (B b : Nat) (r : WR) (c : UInt8) (l : List UInt8) (w : World) (h : Wr B b r w) (hl : r.out.length + (c :: l).length ≤ 1000000000)
    (hc : r.empty = false ∨ (r.empty = true ∧ ((c.toNat : Int) == 95) = false ∧ decide (48 ≤ (c.toNat : Int)) = false) ∨ (r.empty = true ∧ ((c.toNat : Int) == 95) = false ∧ decide (48 ≤ (c.toNat : Int)) = true ∧ decide ((c.toNat : Int) ≤ 57) = false)) :
    Calls Tryz.prog 33 #[.pointer (some ⟨b, 0, none⟩), .string (bs (c :: l))] w fun e w' => e = .returned (.tuple #[]) ∧ Wr B b { r with out := r.out ++ (c :: l), empty := false } w' ∧ KeptM MW B w w' := by
  obtain ⟨vo, vt, vm, vb, ts, ms, h⟩ := h
  obtain ⟨i0, hi, hz0, hz1, hz2⟩ := info_parts infoB
  have c6 := h.c6
  have g6 := h.fz 6
  have c0 := h.c0
  have hll : l.length ≤ 1000000000 := by simp at hl; omega
  have hol : r.out.length + (l.length + 1) ≤ 1000000000 := by simpa using hl
  have fin : ∀ (w2 : World) (v' : Value), (w.setCell ⟨b, 6, none⟩ (.bool false)).grownBy w2 vo.ownBlock → w2.ownsRow B tB 1 v' (r.out.length + (bs (c :: l)).size) (bv r.out ++ Lib.strCells (bs (c :: l))) →
      w2.heap[b]? = some (.cells (({ r with empty := false } : WR).cs vo vt vm vb) tW (0, 0)) ∧ Wr B b { r with out := r.out ++ (c :: l), empty := false } (w2.setCell ⟨b, 0, none⟩ v') ∧ KeptM MW B w (w2.setCell ⟨b, 0, none⟩ v') := by
    intro w2 v' hg hown
    have h1 := h.setEmpty false
    have hown2 : w2.ownsRow B tB 1 v' (r.out ++ (c :: l)).length (bv (r.out ++ (c :: l))) := by
      rw [strCells_bv, bs_list] at hown
      have e1 : (r.out ++ (c :: l)).length = r.out.length + (bs (c :: l)).size := by simp
      rw [e1]; simpa [bv] using hown
    obtain ⟨hb, h2⟩ := h1.setOut hg hown2 (by simp)
    exact ⟨hb, h2.wr, ((h.keeps (KeptM.refl w) 6 _).grown hg (t := tB) (by decide) (fun k e => rowKind h1.out k e)).setCell (p := ⟨b, 0, none⟩) h.hB (t := tW) (by decide) (by rw [hb, kindOf]) _⟩
  have FIN := Lib.hid fin
  have hown := (h.setEmpty false).out
  have hBw : B ≤ w.heap.size := h.hw
  have c0' : (w.setCell ⟨b, 6, none⟩ (.bool false)).cell? ⟨b, 0, none⟩ = some vo := (h.setEmpty false).c0
  have ht : (bs (c :: l)).toList.isEmpty = false := by rw [ByteArray.toList_eq]; rfl
  have h63 : r.out.length + (bs (c :: l)).size ≤ maxLen := by simp; unfold maxLen; omega
  have h64 : r.out.length + (bs (c :: l)).size ≤ 140737488355328 := by simp; omega
  have hBw' : B ≤ (w.setCell ⟨b, 6, none⟩ (.bool false)).heap.size := by simpa [World.setCell] using hBw
  clear fin h hl
  rcases hc with he | ⟨he, h95, hlt⟩ | ⟨he, h95, hgt, hgt2⟩
  all_goals
    rw [he] at c6
    clear he
    go_enter Tryz.func33, Tryz.ntmps33
    go_wp2_with (at_builtin; refine Lib.wpList_append_own_string _ rfl _ _ 39 9 rfl B tB i0 Tryz.underlying39 Tryz.underlying9 hi hz0 hz1 hz2 _ _ _ rfl hown (bs (c :: l)) rfl h63 h64 hBw' ?_)
    intro v' w2 hown' hgrow _
    obtain ⟨hb2, R, K⟩ := (FIN : ∀ _ _, _ → _ → _) w2 v' hgrow (by simpa using hown')
    have d0 : w2.cell? ⟨b, 0, none⟩ = some vo := by rw [cellAt hb2]; rfl
    have g0 : w2.frozen? ⟨b, 0, none⟩ = false := Lib.frozen_of_heap hb2 0
    obtain ⟨ao, n', cap, rfl⟩ : ∃ ao n' cap, v' = .slice ao n' cap := by
      rcases hown'.2 with ⟨hv, _⟩ | ⟨g, cap, cur, hv, _⟩
      · exact ⟨_, _, _, hv⟩
      · exact ⟨_, _, _, hv⟩
    clear hown' hgrow hown hb2 FIN
    go_wp2
    go_end0
    exact ⟨rfl, R, K⟩

theorem put_nil (b : Nat) (w : World) : Calls Tryz.prog 33 #[.pointer (some ⟨b, 0, none⟩), .string (bs [])] w fun e w' => e = .returned (.tuple #[]) ∧ w = w' := by
  have ht : (bs []).toList.isEmpty = true := by rw [ByteArray.toList_eq]; rfl
  go_enter Tryz.func33, Tryz.ntmps33
  go_wp2
  refine bodyPost_ret (results_none rfl _ _ _) rfl ?_
  exact ⟨rfl, rfl⟩

set_option maxHeartbeats 2000000 in
set_option maxRecDepth 100000 in
theorem put_sep (B b : Nat) (r : WR) (c : UInt8) (l : List UInt8) (w : World) (h : Wr B b r w) (hl : r.out.length + (c :: l).length + 1 ≤ 1000000000) (he : r.empty = true)
    (hc : ((c.toNat : Int) == 95) = true ∨ (((c.toNat : Int) == 95) = false ∧ decide (48 ≤ (c.toNat : Int)) = true ∧ decide ((c.toNat : Int) ≤ 57) = true)) :
    Calls Tryz.prog 33 #[.pointer (some ⟨b, 0, none⟩), .string (bs (c :: l))] w fun e w' => e = .returned (.tuple #[]) ∧ Wr B b { r with out := r.out ++ (95 :: c :: l), empty := false } w' ∧ KeptM MW B w w' := by
  obtain ⟨vo, vt, vm, vb, ts, ms, h⟩ := h
  obtain ⟨i0, hi, hz0, hz1, hz2⟩ := info_parts infoB
  have c6 := h.c6
  have g6 := h.fz 6
  have c0 := h.c0
  have ht : (bs (c :: l)).toList.isEmpty = false := by rw [ByteArray.toList_eq]; rfl
  rw [he] at c6
  clear he
  have hown := h.out
  have hBw : B ≤ w.heap.size := h.hw
  have hol : r.out.length + (l.length + 1) + 1 ≤ 1000000000 := by simpa using hl
  have h1 : WrV B b r vo vt vm vb ts ms (w.alloc (.cells #[.int .u8 (95 : UInt8).toNat] tB)) := h.alloc _
  have p1 : ∀ (j : Nat) (u : Value), ([.int .u8 (95 : UInt8).toNat] : List Value)[j]? = some u → (w.alloc (.cells #[.int .u8 (95 : UInt8).toNat] tB)).cell? ((⟨w.heap.size, 0, none⟩ : Addr).add j) = some u := by
    intro j u hj
    match j, hj with
    | 0, hj => simp at hj; subst hj; simp [Addr.add]
  have p3 : r.out.length + 1 ≤ maxLen := by unfold maxLen; omega
  have p4 : (r.out.length + 1) * 1 ≤ 140737488355328 := by omega
  have p5 : B ≤ (w.alloc (.cells #[.int .u8 (95 : UInt8).toNat] tB)).heap.size := by simp; omega
  have hown0 := h1.out
  have k1 : KeptM MW B w (w.alloc (.cells #[.int .u8 (95 : UInt8).toNat] tB)) := (KeptM.refl w).alloc _
  have fin : ∀ (w2 : World) (v' : Value), (w.alloc (.cells #[.int .u8 (95 : UInt8).toNat] tB)).grownBy w2 vo.ownBlock → w2.ownsRow B tB 1 v' (r.out.length + 1) (bv r.out ++ [.int .u8 (95 : UInt8).toNat]) →
      w2.heap[b]? = some (.cells (r.cs vo vt vm vb) tW (0, 0)) ∧ WrV B b { r with out := r.out ++ [95], empty := false } v' vt vm vb ts ms ((w2.setCell ⟨b, 0, none⟩ v').setCell ⟨b, 6, none⟩ (.bool false)) ∧ KeptM MW B w ((w2.setCell ⟨b, 0, none⟩ v').setCell ⟨b, 6, none⟩ (.bool false)) := by
    intro w2 v' hg hown
    have hown2 : w2.ownsRow B tB 1 v' (r.out ++ [95]).length (bv (r.out ++ [95])) := by
      have e1 : (r.out ++ [(95 : UInt8)]).length = r.out.length + 1 := by simp
      rw [e1]; simpa [bv] using hown
    obtain ⟨hb, h2⟩ := h1.setOut hg hown2 (by simp)
    exact ⟨hb, h2.setEmpty false, h2.keeps ((k1.grown hg (t := tB) (by decide) (fun k e => rowKind h1.out k e)).setCell (p := ⟨b, 0, none⟩) h.hB (t := tW) (by decide) (by rw [hb, kindOf]) _) 6 _⟩
  have FIN := Lib.hid fin
  have P1 := Lib.hid p1
  clear fin h hl h1 k1 p1
  rcases hc with h95 | ⟨h95, hgt, hgt2⟩
  all_goals
    go_enter Tryz.func33, Tryz.ntmps33
    go_wp2_with (at_builtin; refine wpList_append_own _ rfl _ _ 39 rfl B tB i0 (.int .u8 0) 1 1 Tryz.underlying39 hi hz0 hz1 hz2 rfl (by decide) _ _ _ rfl hown0 ⟨w.heap.size, 0, none⟩ 1 1 [.int .u8 (95 : UInt8).toNat] rfl rfl P1 (by intro u hu; simp at hu; subst hu; rfl) p3 p4 p5 ?_)
    intro v' w2 hown' hgrow _
    obtain ⟨hb2, R, K⟩ := (FIN : ∀ _ _, _ → _ → _) w2 v' hgrow (by simpa using hown')
    have d0 : w2.cell? ⟨b, 0, none⟩ = some vo := by rw [cellAt hb2]; rfl
    have g0 : w2.frozen? ⟨b, 0, none⟩ = false := Lib.frozen_of_heap hb2 0
    have d6 : (w2.setCell ⟨b, 0, none⟩ v').cell? ⟨b, 6, none⟩ = some (.bool r.empty) := by
      rw [cellAt (setCell_heap hb2 0 v')]; rfl
    have g6' : (w2.setCell ⟨b, 0, none⟩ v').frozen? ⟨b, 6, none⟩ = false := Lib.frozen_of_heap (setCell_heap hb2 0 v') 6
    obtain ⟨ao, n', cap, rfl⟩ : ∃ ao n' cap, v' = .slice ao n' cap := by
      rcases hown'.2 with ⟨hv, _⟩ | ⟨g, cap, cur, hv, _⟩
      · exact ⟨_, _, _, hv⟩
      · exact ⟨_, _, _, hv⟩
    clear hown' hgrow hown hb2 FIN P1 hown0
    have own2 := R.out
    have c0' := R.c0
    have h63 : (r.out ++ [95]).length + (bs (c :: l)).size ≤ maxLen := by simp; unfold maxLen; omega
    have h64 : (r.out ++ [95]).length + (bs (c :: l)).size ≤ 140737488355328 := by simp; omega
    have hBw' := R.hw
    have fin : ∀ (w4 : World) (v' : Value), ((w2.setCell ⟨b, 0, none⟩ (.slice ao n' cap)).setCell ⟨b, 6, none⟩ (.bool false)).grownBy w4 (Value.slice ao n' cap).ownBlock → w4.ownsRow B tB 1 v' ((r.out ++ [95]).length + (bs (c :: l)).size) (bv (r.out ++ [95]) ++ Lib.strCells (bs (c :: l))) →
        w4.heap[b]? = some (.cells (({ r with out := r.out ++ [95], empty := false } : WR).cs (.slice ao n' cap) vt vm vb) tW (0, 0)) ∧ Wr B b { r with out := r.out ++ (95 :: c :: l), empty := false } (w4.setCell ⟨b, 0, none⟩ v') ∧ KeptM MW B w (w4.setCell ⟨b, 0, none⟩ v') := by
      intro w4 v' hg hown
      have hown2 : w4.ownsRow B tB 1 v' (r.out ++ (95 :: c :: l)).length (bv (r.out ++ (95 :: c :: l))) := by
        rw [strCells_bv, bs_list] at hown
        have e1 : (r.out ++ (95 :: c :: l)).length = (r.out ++ [95]).length + (bs (c :: l)).size := by simp; omega
        rw [e1]; simpa [bv] using hown
      obtain ⟨hb, h2⟩ := R.setOut hg hown2 (by simp)
      exact ⟨hb, h2.wr, (K.grown hg (t := tB) (by decide) (fun k e => rowKind R.out k e)).setCell (p := ⟨b, 0, none⟩) R.hB (t := tW) (by decide) (by rw [hb, kindOf]) _⟩
    have FIN := Lib.hid fin
    clear fin R K
    go_wp2_with (at_builtin; refine Lib.wpList_append_own_string _ rfl _ _ 39 9 rfl B tB i0 Tryz.underlying39 Tryz.underlying9 hi hz0 hz1 hz2 _ _ _ rfl own2 (bs (c :: l)) rfl h63 h64 hBw' ?_)
    intro v' w4 hown' hgrow _
    obtain ⟨hb4, R, K⟩ := (FIN : ∀ _ _, _ → _ → _) w4 v' hgrow (by simpa using hown')
    have d0 : w4.cell? ⟨b, 0, none⟩ = some (.slice ao n' cap) := by rw [cellAt hb4]; rfl
    have g0 : w4.frozen? ⟨b, 0, none⟩ = false := Lib.frozen_of_heap hb4 0
    obtain ⟨ao', n'', cap', rfl⟩ : ∃ ao n' cap, v' = .slice ao n' cap := by
      rcases hown'.2 with ⟨hv, _⟩ | ⟨g, cap, cur, hv, _⟩
      · exact ⟨_, _, _, hv⟩
      · exact ⟨_, _, _, hv⟩
    clear hown' hgrow own2 hb4 FIN
    go_wp2
    go_end0
    exact ⟨rfl, R, K⟩

/-- A text is put behind. -/
theorem put_any (B b : Nat) (r : WR) (l : List UInt8) (w : World) (h : Wr B b r w) (hl : r.out.length + l.length + 1 ≤ 1000000000) :
    Calls Tryz.prog 33 #[.pointer (some ⟨b, 0, none⟩), .string (bs l)] w fun e w' => e = .returned (.tuple #[]) ∧ Wr B b (r.put l) w' ∧ KeptM MW B w w' := by
  cases l with
  | nil =>
    refine (put_nil b w).mono ?_
    rintro e w' ⟨rfl, rfl⟩
    exact ⟨rfl, by simpa [WR.put] using h, KeptM.refl _⟩
  | cons c l =>
    have e0 : r.put (c :: l) = { r with out := r.out ++ (sepOf r.empty (c :: l) ++ (c :: l)), empty := false } := by simp [WR.put]
    have pl : (r.empty && startsDU (c :: l)) = false → r.put (c :: l) = { r with out := r.out ++ (c :: l), empty := false } := by
      intro h; rw [e0]; simp [sepOf, h]
    cases he : r.empty with
    | false =>
      refine (put_plain B b r c l w h (by simpa [Nat.add_assoc] using (by simp at hl ⊢; omega : r.out.length + (c :: l).length ≤ 1000000000)) (.inl he)).mono ?_
      rintro e w' ⟨rfl, h1, k⟩
      rw [pl (by simp [he])]
      exact ⟨rfl, h1, k⟩
    | true =>
      by_cases hs : startsDU (c :: l) = true
      · refine (put_sep B b r c l w h (by omega) he ?_).mono ?_
        · unfold startsDU at hs
          simp only [Bool.or_eq_true, Bool.and_eq_true, decide_eq_true_eq] at hs
          by_cases h5 : c.toNat = 95
          · exact .inl (by rw [h5]; decide)
          · refine .inr ⟨by rw [beq_eq_false_iff_ne]; omega, ?_, ?_⟩
            · simp; omega
            · simp; omega
        · rintro e w' ⟨rfl, h1, k⟩
          have e1 : sepOf r.empty (c :: l) = [95] := by simp [sepOf, he, hs]
          rw [e0, e1]
          exact ⟨rfl, h1, k⟩
      · have hs' : startsDU (c :: l) = false := by simpa using hs
        refine (put_plain B b r c l w h (by simp at hl ⊢; omega) (.inr ?_)).mono ?_
        · unfold startsDU at hs'
          simp only [Bool.or_eq_false_iff, Bool.and_eq_false_iff, decide_eq_false_iff_not] at hs'
          obtain ⟨h5, h6⟩ := hs'
          have h5' : ((c.toNat : Int) == 95) = false := by rw [beq_eq_false_iff_ne]; omega
          rcases Nat.lt_or_ge c.toNat 48 with h | h
          · exact .inl ⟨he, h5', by simp; omega⟩
          · exact .inr ⟨he, h5', by simp; omega, by simp; omega⟩
        · rintro e w' ⟨rfl, h1, k⟩
          rw [pl (by simp [hs'])]
          exact ⟨rfl, h1, k⟩
end Go.Proofs.YtidokamjbglkbaaGreatDoor

/- One byte, as a text. -/
namespace Go.Proofs.YtidokamjbglkbaaGreatDoor
open Go.RowKit

theorem conv1k (w : World) (k : Nat) (hk : k = w.heap.size) (c : UInt8) (v : Int) (hv : v = c.toNat) :
    (convert 39 9 (.slice (some ⟨k, 0, none⟩) 1 1)).run Tryz.prog (w.alloc (.cells #[.int .u8 v] 5)) = .ok (.string (bs [c])) (w.alloc (.cells #[.int .u8 v] 5)) := by
  subst hk; exact conv1 w c v hv
end Go.Proofs.YtidokamjbglkbaaGreatDoor

/- A constant, written; spelled; a piece. -/
namespace Go.Proofs.YtidokamjbglkbaaGreatDoor
open Go.RowKit

/-- A tree's block stays where a writer writes. -/
theorem KeptM.tree {B k : Nat} {w w' : World} {cs : Array Value} (h : KeptM MW B w w') (hk : w.heap[k]? = some (.cells cs tRu (0, 0))) : w'.heap[k]? = some (.cells cs tRu (0, 0)) := by
  rw [h.block k (Array.getElem?_eq_some_iff.1 hk).1 (.inr ?_)]
  · exact hk
  · rw [hk]
    intro t ht e
    have : tRu = t := Option.some.inj e
    subst this
    exact absurd ht (by decide)
theorem Wr.alloc {B b : Nat} {r : WR} {w : World} (h : Wr B b r w) (o : Obj) : Wr B b r (w.alloc o) := by
  obtain ⟨vo, vt, vm, vb, ts, ms, h⟩ := h; exact (h.alloc o).wr
theorem Wr.drewN {B b : Nat} {r : WR} {w : World} (h : Wr B b r w) (n : Nat) : Wr B b r (w.drewN n) := by
  obtain ⟨vo, vt, vm, vb, ts, ms, h⟩ := h; exact (h.drewN n).wr
theorem Wr.hB {B b : Nat} {r : WR} {w : World} (h : Wr B b r w) : B ≤ w.heap.size := by
  obtain ⟨vo, vt, vm, vb, ts, ms, h⟩ := h; exact h.hw
theorem Wr.lt {B b : Nat} {r : WR} {w : World} (h : Wr B b r w) : b < w.heap.size := by
  obtain ⟨vo, vt, vm, vb, ts, ms, h⟩ := h; exact h.lt
theorem Wr.cast {B b : Nat} {r r' : WR} {w : World} (h : Wr B b r w) (e : r = r') : Wr B b r' w := e ▸ h
theorem WR.put_plain (r : WR) (l : List UInt8) (he : r.empty = false) : r.put l = { r with out := r.out ++ l, empty := false } := by
  unfold WR.put
  by_cases h : l = []
  · subst h; cases r; simp at he; subst he; simp
  · rw [if_neg h]; simp [sepOf, he]

set_option maxHeartbeats 2000000 in
set_option maxRecDepth 100000 in
theorem write_hole (B b : Nat) (r : WR) (c : UInt8) (nm : List UInt8) (n : Nat) (fl : Bool) (ks : Value) (w : World) (h : Wr B b r w) (hl : r.out.length + 2 ≤ 1000000000) :
    Calls Tryz.prog 30 #[.pointer (some ⟨b, 0, none⟩), .agg (rv 21 c nm n fl ks)] w fun e w' => e = .returned (.tuple #[]) ∧ Wr B b (r.put [112]) w' ∧ KeptM MW B w w' := by
  have H := Lib.hid h
  clear h
  go_enter Tryz.func30, Tryz.ntmps30
  go_wp2_with (first
    | (go_at_call 35; refine (isPath_any _ _).mono ?_; rintro e w' ⟨rfl, rfl⟩)
    | (go_at_call 33; refine (put_any B b r [112] _ ((Wr.alloc H.out) _) (by simp; omega)).mono ?_))
  rintro e w' ⟨rfl, h1, k⟩
  go_wp2
  go_end0
  exact ⟨rfl, h1, ((KeptM.refl w).alloc _).trans k⟩

/-- A block of a tree, new. -/
theorem tree_new (w : World) (cs : Array Value) : (w.alloc (.cells cs tRu)).heap[w.heap.size]? = some (.cells cs tRu (0, 0)) := heap_alloc_new w _

set_option maxHeartbeats 4000000 in
set_option maxRecDepth 100000 in
theorem write_num (B b : Nat) (r : WR) (c : UInt8) (nm : List UInt8) (n : Nat) (fl : Bool) (ks : Value) (hn : n < 18446744073709551616) (w : World) (h : Wr B b r w) (hl : r.out.length + 40 ≤ 1000000000) :
    Calls Tryz.prog 30 #[.pointer (some ⟨b, 0, none⟩), .agg (rv 20 c nm n fl ks)] w fun e w' => e = .returned (.tuple #[]) ∧ Wr B b (((r.put [c]).put (negCode fl)).put (h16 n ++ [95])) w' ∧ KeptM MW B w w' := by
  have H := Lib.hid ((h.alloc (.cells (rv 20 c nm n fl ks) tRu)).alloc (.cells #[.int .u8 c.toNat] tB))
  have K := Lib.hid (((KeptM.refl (M := MW) (B := B) w).alloc (.cells (rv 20 c nm n fl ks) tRu)).alloc (.cells #[.int .u8 c.toNat] tB))
  have T := Lib.hid ((Below.heap_alloc (w.alloc (.cells (rv 20 c nm n fl ks) tRu)) (.cells #[.int .u8 c.toNat] tB) w.heap.size (by simp)).trans (tree_new w (rv 20 c nm n fl ks)))
  have q := conv1k (w.alloc (.cells (rv 20 c nm n fl ks) tRu)) (w.heap.size + 1) (by simp) c c.toNat rfl
  have PL : ∀ (r : WR) (l : List UInt8), (r.put l).out.length ≤ r.out.length + l.length + 1 := by
    intro r l
    unfold WR.put
    split
    · omega
    · simp only [List.length_append, sepOf]
      split <;> simp <;> omega
  have HL := h16_len n 15 (by omega)
  have L1 := PL r [c]
  have L2 := PL (r.put [c]) (negCode fl)
  have L3 : (negCode fl).length ≤ 1 := by cases fl <;> simp [negCode]
  simp only [List.length_cons, List.length_nil] at L1
  have S1 := Lib.hid (show r.out.length + [c].length + 1 ≤ 1000000000 by simp; omega)
  have S2 := Lib.hid (show (r.put [c]).out.length + (negCode fl).length + 1 ≤ 1000000000 by omega)
  have S3 := Lib.hid (show ((r.put [c]).put (negCode fl)).out.length + (h16 n ++ [95]).length + 1 ≤ 1000000000 by simp; omega)
  have HX := Lib.hid (fun w => hex_any n hn w)
  have hm : ¬ 9223372036854775807 < (h16 n).length + 1 := by omega
  have eb : bs (h16 n) ++ (⟨#[95]⟩ : ByteArray) = bs (h16 n ++ [95]) := by rw [← bs_append]; rfl
  clear h PL HL L1 L2 L3 hl hn
  cases fl with
  | false =>
    go_enter Tryz.func30, Tryz.ntmps30
    go_wp2_with (first
      | (go_at_call 35; refine (isPath_any _ _).mono ?_; rintro e w' ⟨rfl, rfl⟩)
      | (go_at_call 33; refine (put_any B b r [c] _ H.out S1.out).mono ?_))
    rintro e w1 ⟨rfl, h1, k1⟩
    have t1 := k1.tree T.out
    have a3 : w1.cell? ⟨w.heap.size, 3, none⟩ = some (.int .u64 n) := by rw [cellAt t1]; rfl
    have a4 : w1.cell? ⟨w.heap.size, 4, none⟩ = some (.bool false) := by rw [cellAt t1]; rfl
    have K1 := Lib.hid (K.out.trans k1)
    have H1 := Lib.hid h1
    clear k1 h1 t1
    go_wp2_with (first
      | (go_at_call 43; refine (HX.out _).mono ?_))
    rintro e w2 ⟨rfl, m, rfl⟩
    go_wp2_with (go_at_call 33; refine (put_any B b _ (h16 n ++ [95]) _ (H1.out.drewN _) S3.out).mono ?_)
    rintro e w2 ⟨rfl, h2, k2⟩
    have K2 := (K1.out.drewN m).trans k2
    go_wp2
    go_end0
    exact ⟨rfl, h2, K2⟩
  | true =>
    go_enter Tryz.func30, Tryz.ntmps30
    go_wp2_with (first
      | (go_at_call 35; refine (isPath_any _ _).mono ?_; rintro e w' ⟨rfl, rfl⟩)
      | (go_at_call 33; refine (put_any B b r [c] _ H.out S1.out).mono ?_))
    rintro e w1 ⟨rfl, h1, k1⟩
    have t1 := k1.tree T.out
    have T1 := Lib.hid t1
    have a4 : w1.cell? ⟨w.heap.size, 4, none⟩ = some (.bool true) := by rw [cellAt t1]; rfl
    have K1 := Lib.hid (K.out.trans k1)
    have H1 := Lib.hid h1
    clear k1 h1 t1
    go_wp2_with (go_at_call 33; refine (put_any B b _ [110] _ H1.out S2.out).mono ?_)
    rintro e w2 ⟨rfl, h2, k2⟩
    have t2 := k2.tree T1.out
    have a3 : w2.cell? ⟨w.heap.size, 3, none⟩ = some (.int .u64 n) := by rw [cellAt t2]; rfl
    have K2 := Lib.hid (K1.out.trans k2)
    have H2 := Lib.hid h2
    clear k2 h2 t2 T1 a4
    go_wp2_with (first
      | (go_at_call 43; refine (HX.out _).mono ?_))
    rintro e w3 ⟨rfl, m, rfl⟩
    go_wp2_with (go_at_call 33; refine (put_any B b _ (h16 n ++ [95]) _ (H2.out.drewN _) S3.out).mono ?_)
    rintro e w4 ⟨rfl, h4, k4⟩
    have K4 := (K2.out.drewN m).trans k4
    go_wp2
    go_end0
    exact ⟨rfl, h4, K4⟩
end Go.Proofs.YtidokamjbglkbaaGreatDoor

/- A piece: spelled out, and written. -/
namespace Go.Proofs.YtidokamjbglkbaaGreatDoor
open Go.RowKit

theorem Tabs.up {B B' : Nat} {w : World} (h : Tabs B w) (hB : B ≤ B') : Tabs B' w := by
  obtain ⟨W, h1, h2, h3⟩ := h; exact ⟨W, h1, by omega, h3⟩

/-- A writer that begins. -/
def W0 (pl : Bool) : WR := ⟨[], pl, false, 0, [], 0⟩
theorem own_nil (w : World) (B size : Nat) (e : TypeId) : w.ownsRow B size e (.slice none 0 0) 0 [] := by
  exact ⟨by simp, .inl ⟨rfl, rfl⟩⟩
theorem Wr.fresh {B : Nat} {w : World} (ht : Tabs B w) (hB : B ≤ w.heap.size) (pl : Bool) :
    Wr w.heap.size w.heap.size (W0 pl) (w.alloc (.cells ((W0 pl).cs (.slice none 0 0) (.slice none 0 0) (.slice none 0 0) (.slice none 0 0)) tW)) := by
  refine ⟨.slice none 0 0, .slice none 0 0, .slice none 0 0, .slice none 0 0, [], [], ⟨Nat.le_refl _, by simp, (ht.up hB).same (fun k hk => Below.heap_alloc _ _ _ hk), heap_alloc_new w _, own_nil _ _ _ _, own_nil _ _ _ _, own_nil _ _ _ _, own_nil _ _ _ _, Nat.le_refl _, Nat.le_refl _, Nat.le_refl _, Nat.zero_le _⟩⟩
theorem Wr.below {B b : Nat} {r : WR} {w w' : World} (h : Wr B b r w) (hb : Below w.heap.size w w') : Wr B b r w' := by
  obtain ⟨vo, vt, vm, vb, ts, ms, h⟩ := h
  have hg : w.grownBy w' none := ⟨hb.os, hb.tape, hb.output, hb.size, fun k hk _ => hb.block k hk⟩
  exact (h.grownBy (e := tRu) hg (fun k e => by simp at e) (by decide) (by decide) (by decide) (by decide) (by decide)).wr
theorem Wr.tabs {B b : Nat} {r : WR} {w : World} (h : Wr B b r w) : Tabs B w := by
  obtain ⟨vo, vt, vm, vb, ts, ms, h⟩ := h; exact h.tab

/-- A part of the writer: with v it makes r to e r, and writes at most n bytes. -/
def Writes (f : FuncId) (v : Value) (P : Nat → World → Prop) (e : WR → WR) (n : Nat) : Prop :=
  ∀ (B b : Nat) (r : WR) (w : World), Wr B b r w → P B w → r.out.length + n ≤ 1000000000 → r.cnt + n ≤ 1000000000 →
    Calls Tryz.prog f #[.pointer (some ⟨b, 0, none⟩), v] w fun en w' => en = .returned (.tuple #[]) ∧ Wr B b (e r) w' ∧ KeptM MW B w w'
/-- What is asked of the memory holds on where blocks below B stay. -/
def Steady (P : Nat → World → Prop) : Prop := (∀ B w w', P B w → Below B w w' → P B w') ∧ (∀ B B' w, P B w → B ≤ B' → P B' w)

/-- The bytes that a value owns, as a text. -/
theorem conv_row {w : World} {B : Nat} {v : Value} {l : List UInt8} (h : w.ownsRow B tB 1 v l.length (bv l)) :
    (convert 39 9 v).run Tryz.prog w = .ok (.string (bs l)) w := by
  have hc := fun g (hg : v.ownBlock = some g) => h.cells (g := g) hg
  rcases h.2 with ⟨rfl, h0⟩ | ⟨g, cap, cur, rfl, _⟩
  · have : l = [] := List.eq_nil_of_length_eq_zero h0
    subst this
    exact Lib.run_convert_nil_bytes w _ _ 5 0 Tryz.underlying39 Tryz.underlying5 Tryz.underlying9
  · refine run_convert_bytes_back _ _ _ 5 _ cap l Tryz.underlying39 Tryz.underlying5 Tryz.underlying9 ?_
    intro j hj
    exact hc g rfl j _ (by simp [bv, hj])
theorem Wr.text {B b : Nat} {r : WR} {w : World} (h : Wr B b r w) : ∃ vo, w.cell? ⟨b, 0, none⟩ = some vo ∧ (convert 39 9 vo).run Tryz.prog w = .ok (.string (bs r.out)) w := by
  obtain ⟨vo, vt, vm, vb, ts, ms, h⟩ := h
  exact ⟨vo, h.c0, conv_row h.out⟩

set_option maxHeartbeats 2000000 in
set_option maxRecDepth 100000 in
theorem spelled_any (kd : Int) (c : UInt8) (nm : List UInt8) (m : Nat) (fl : Bool) (ks : Value) (P : Nat → World → Prop) (e : WR → WR) (n : Nat) (hP : Steady P)
    (hw : Writes 30 (.agg (rv kd c nm m fl ks)) P e n) (hn : n ≤ 1000000000)
    (B : Nat) (w : World) (ht : Tabs B w) (hB : B ≤ w.heap.size) (hp : P B w) :
    Calls Tryz.prog 31 #[.agg (rv kd c nm m fl ks)] w fun en w' => en = .returned (.string (bs (e (W0 true)).out)) ∧ Below w.heap.size w w' := by
  have b1 : Below w.heap.size w (w.alloc (.cells (rv kd c nm m fl ks) tRu)) := (Below.refl _ _).alloc (Nat.le_refl _) _
  have F := Lib.hid (Wr.fresh (ht.same fun k hk => (b1.mono hB).block k hk) (by simp; omega : B ≤ (w.alloc (.cells (rv kd c nm m fl ks) tRu)).heap.size) true)
  have p1 := Lib.hid (hP.2 _ (w.alloc (.cells (rv kd c nm m fl ks) tRu)).heap.size _ (hP.1 _ _ ((w.alloc (.cells (rv kd c nm m fl ks) tRu)).alloc (.cells ((W0 true).cs (.slice none 0 0) (.slice none 0 0) (.slice none 0 0) (.slice none 0 0)) tW)) hp ((b1.mono hB).alloc (by simp; omega) _)) (by simp; omega))
  have HW := Lib.hid hw
  have b2 := Lib.hid (b1.alloc (by simp) (.cells ((W0 true).cs (.slice none 0 0) (.slice none 0 0) (.slice none 0 0) (.slice none 0 0)) tW))
  clear b1 hw hp ht hB hP
  have e1 : (w.alloc (.cells (rv kd c nm m fl ks) tRu)).heap.size = w.heap.size + 1 := by simp
  rw [e1] at F p1
  clear e1
  go_enter Tryz.func31, Tryz.ntmps31
  go_wp2_with (go_at_call 30; refine (HW.out _ _ (W0 true) _ F.out p1.out (by simpa [W0] using hn) (by simpa [W0] using hn)).mono ?_)
  rintro en w1 ⟨rfl, h1, k1⟩
  have b3 := b2.out.trans ((k1.below (by simp)).mono (by simp))
  obtain ⟨vo, c0, cv⟩ := h1.text
  clear k1 h1
  go_wp2
  go_ret
  exact ⟨rfl, b3⟩

theorem infoS : (Tryz.prog.info? tStr).map (fun i => (i.zero, i.size, i.bytes)) = some (some (.string ⟨#[]⟩), 1, 16) := by kernel_rfl
theorem infoI : (Tryz.prog.info? tInt).map (fun i => (i.zero, i.size, i.bytes)) = some (some (.int .i64 0), 1, 8) := by kernel_rfl
theorem info_parts2 {t : TypeId} {z : Value} {s b : Nat} (h : (Tryz.prog.info? t).map (fun i => (i.zero, i.size, i.bytes)) = some (some z, s, b)) : ∃ i, Tryz.prog.info? t = some i ∧ i.zero = some z ∧ i.size = s ∧ i.bytes = b := by
  obtain ⟨i, hi, he⟩ := Option.map_eq_some_iff.1 h
  simp only [Prod.mk.injEq] at he
  exact ⟨i, hi, he.1, he.2.1, he.2.2⟩
/-- One cell, new. -/
theorem one_new (w : World) (v : Value) (T : TypeId) : ∀ (j : Nat) (u : Value), ([v] : List Value)[j]? = some u → (w.alloc (.cells #[v] T)).cell? ((⟨w.heap.size, 0, none⟩ : Addr).add j) = some u := by
  intro j u hj
  match j, hj with
  | 0, hj => simp at hj; subst hj; simp [Addr.add]

/-- No choices: it reads the next one as false. -/
theorem choose_any (B b : Nat) (r : WR) (w : World) (h : Wr B b r w) :
    Calls Tryz.prog 32 #[.pointer (some ⟨b, 0, none⟩)] w fun en w' => en = .returned (.bool false) ∧ w' = w := by
  obtain ⟨vo, vt, vm, vb, ts, ms, h⟩ := h
  have c3 := h.c3
  clear h
  go_enter Tryz.func32, Tryz.ntmps32
  go_wp2
  go_ret
  exact ⟨rfl, rfl⟩

/-- A piece is counted. -/
def counted (e : WR → WR) (r : WR) : WR := if r.plain then e r else { e r with cnt := (e r).cnt + 1 }
theorem counted_true (e : WR → WR) {r : WR} (h : r.plain = true) : counted e r = e r := by simp [counted, h]
theorem counted_false (e : WR → WR) {r : WR} (h : r.plain = false) : counted e r = { e r with cnt := (e r).cnt + 1 } := by simp [counted, h]

set_option maxHeartbeats 4000000 in
set_option maxRecDepth 100000 in
theorem piece_any (kd : Int) (c : UInt8) (nm : List UInt8) (m : Nat) (fl : Bool) (ks : Value) (P : Nat → World → Prop) (e : WR → WR) (n : Nat) (hP : Steady P)
    (hw : Writes 30 (.agg (rv kd c nm m fl ks)) P e n) (hn : n ≤ 1000000000) (he : ∀ r, (e r).out.length ≤ r.out.length + n ∧ (e r).cnt + 1 ≤ r.cnt + n) :
    Writes 23 (.agg (rv kd c nm m fl ks)) P (counted e) n := by
  intro B b r w h hp hl hl2
  have HS := Lib.hid (fun B w => spelled_any kd c nm m fl ks P e n hP hw hn B w)
  have HW := Lib.hid hw
  have HP := Lib.hid hP
  cases hpl : r.plain with
  | true =>
    have b1 : Below w.heap.size w (w.alloc (.cells (rv kd c nm m fl ks) tRu)) := (Below.refl _ _).alloc (Nat.le_refl _) _
    have c5 : (w.alloc (.cells (rv kd c nm m fl ks) tRu)).cell? ⟨b, 5, none⟩ = some (.bool true) := by
      obtain ⟨vo, vt, vm, vb, ts, ms, h0⟩ := h.below b1
      have := h0.c5
      rwa [hpl] at this
    have p1 := Lib.hid (hP.1 _ _ _ hp (b1.mono h.hB))
    have H1 := Lib.hid (h.below b1)
    have K1 := Lib.hid ((KeptM.refl (M := MW) (B := B) w).alloc (.cells (rv kd c nm m fl ks) tRu))
    clear h b1 hP hw hp
    go_enter Tryz.func23, Tryz.ntmps23
    go_wp2_with (go_at_call 30; refine (HW.out B b r _ H1.out p1.out hl hl2).mono ?_)
    rintro en w2 ⟨rfl, h3, k3⟩
    have K3 := K1.out.trans k3
    clear k3
    go_wp2
    refine bodyPost_ret (results_none rfl _ _ _) rfl ?_
    exact ⟨rfl, h3.cast (counted_true e hpl).symm, K3⟩
  | false =>
    have h0 := h
    obtain ⟨vo, vt, vm, vb, ts, ms, h0⟩ := h0
    have c5 := (h0.alloc (.cells (rv kd c nm m fl ks) tRu)).c5
    rw [hpl] at c5
    have T0 := h0.tab
    have hBw := h0.hw
    have b1 : Below w.heap.size w (w.alloc (.cells (rv kd c nm m fl ks) tRu)) := (Below.refl _ _).alloc (Nat.le_refl _) _
    have p1 := Lib.hid (hP.1 _ _ _ hp (b1.mono hBw))
    have t1 := Lib.hid (T0.same fun k hk => (b1.mono hBw).block k hk)
    have H1 := Lib.hid (h.below b1)
    have K1 := Lib.hid ((KeptM.refl (M := MW) (B := B) w).alloc (.cells (rv kd c nm m fl ks) tRu))
    have R1 := Lib.hid (tree_new w (rv kd c nm m fl ks))
    have B1 := Lib.hid (show B ≤ (w.alloc (.cells (rv kd c nm m fl ks) tRu)).heap.size by simp; omega)
    clear h h0 T0 b1 hP hw hp
    go_enter Tryz.func23, Tryz.ntmps23
    go_wp2_with (go_at_call 31; refine (HS.out B _ t1.out B1.out p1.out).mono ?_)
    rintro en w1 ⟨rfl, b1⟩
    have P1 := Lib.hid (HP.out.1 _ _ _ p1.out (b1.mono B1.out))
    have H2 := H1.out.below b1
    have K2 := Lib.hid (K1.out.trans (KeptM.of_below b1))
    have R2 : w1.heap[w.heap.size]? = some (.cells (rv kd c nm m fl ks) tRu (0, 0)) := (b1.block _ (by simp)).trans R1.out
    obtain ⟨q, hq⟩ : ∃ q, q = (e (W0 true)).out := ⟨_, rfl⟩
    rw [← hq]
    have HQ := Lib.hid hq
    clear b1 H1 K1 R1 p1 t1 B1 HS hq
    have H3 := Lib.hid H2
    obtain ⟨vo', vt', vm', vb', ts', ms', h2⟩ := H2
    have c1 := h2.c1
    have tx := h2.texts
    obtain ⟨ao, cap, rfl, hcell⟩ : ∃ ao cap, vt' = .slice ao ts'.length cap ∧ ∀ k (hk : k < ts'.length), ∃ a : Addr, ao = some a ∧ w1.cell? (a.add k) = some (.string ts'[k]) := by
      rcases tx.2 with ⟨rfl, h0⟩ | ⟨g, cap, cur, rfl, _⟩
      · exact ⟨none, 0, by rw [h0], fun k hk => by omega⟩
      · exact ⟨some ⟨g, 0, none⟩, cap, rfl, fun k hk => ⟨_, rfl, tx.cells (g := g) rfl k _ (by simp [hk])⟩⟩
    have HC := Lib.hid hcell
    have h2' := h2
    have hts : ts'.length ≤ 1000000000 := by have := h2.nt; omega
    clear hcell tx h2
    go_wp2_with fail
    go_loop [5, 6, 22] (fun _ _ i => ∃ k : Nat, k ≤ ts'.length ∧ i = .int .i64 k) (fun _ _ i => ts'.length - (intOf i).toNat)
    case atStart => exact ⟨0, Nat.zero_le _, rfl⟩
    case round =>
      obtain ⟨k, hk, rfl⟩ := hrel
      by_cases hlt : k < ts'.length
      · obtain ⟨a, rfl, hc⟩ := HC.out k hlt
        go_wp2_with (first
          | (go_at_call 32; refine (choose_any B b r _ H3.out).mono ?_; rintro en w' ⟨rfl, rfl⟩))
        all_goals
          go_round
          case rel => exact ⟨k + 1, by omega, by go_num⟩
          case measure => simp [intOf]; omega
      · have hkn : k = ts'.length := by omega
        subst hkn
        have c0 := h2'.c0
        have ho := h2'.out
        obtain ⟨bo, co, rfl⟩ : ∃ bo co, vo' = .slice bo r.out.length co := by
          rcases ho.2 with ⟨hv, h0⟩ | ⟨g, cap, cur, hv, _⟩
          · exact ⟨none, 0, by rw [hv, h0]⟩
          · exact ⟨_, _, hv⟩
        clear ho h2' HC c1
        have a0 : ∀ j (hj : j < 6), w1.cell? ⟨w.heap.size, j, none⟩ = (rv kd c nm m fl ks)[j]? := fun j hj => by rw [cellAt R2]
        have a00 := a0 0 (by decide)
        have a01 := a0 1 (by decide)
        have a02 := a0 2 (by decide)
        have a03 := a0 3 (by decide)
        have a04 := a0 4 (by decide)
        have a05 := a0 5 (by decide)
        simp at a00 a01 a02 a03 a04 a05
        clear a0
        go_wp2_with (go_at_call 30; refine (HW.out B b r _ H3.out P1.out hl hl2).mono ?_)
        rintro en w2 ⟨rfl, h3, k3⟩
        intro h3 k3
        obtain ⟨is, his, hs0, hs1, hs2⟩ := info_parts2 infoS
        obtain ⟨ii, hii, hi0, hi1, hi2⟩ := info_parts2 infoI
        obtain ⟨vo2, vt2, vm2, vb2, ts2, ms2, g3⟩ := h3
        have d1 := g3.c1
        have G4 := g3.more.alloc (.cells #[.string (bs q)] tStr)
        have K3 := Lib.hid ((K2.out.trans k3).alloc (.cells #[.string (bs q)] tStr))
        have own4 := G4.texts
        have p1 := Lib.hid (one_new w2 (.string (bs q)) tStr)
        have hlen : ts2.length + 1 ≤ 1000000000 := by have := g3.nt; have := (he r).2; omega
        have hlen2 : ms2.length + 1 ≤ 1000000000 := by have := g3.nm; have := (he r).2; omega
        have hlen3 : ms2.length + 1 ≤ (e r).cnt + 1 := by have := g3.nm; omega
        have hlen4 : ts2.length + 1 ≤ (e r).cnt + 1 := by have := g3.nt; omega
        have p3 : ts2.length + 1 ≤ maxLen := by unfold maxLen; omega
        have p4 : (ts2.length + 1) * 16 ≤ 140737488355328 := by omega
        have p5 := G4.hw
        have FIN : Hid (∀ (w5 : World) (v' : Value), (w2.alloc (.cells #[.string (bs q)] tStr)).grownBy w5 vt2.ownBlock → w5.ownsRow B tStr 1 v' (ts2.length + 1) (ts2.map Value.string ++ [.string (bs q)]) →
            w5.heap[b]? = some (.cells (({ e r with cnt := (e r).cnt + 1 } : WR).cs vo2 vt2 vm2 vb2) tW (0, 0)) ∧ WrV B b { e r with cnt := (e r).cnt + 1 } vo2 v' vm2 vb2 (ts2 ++ [bs q]) ms2 (w5.setCell ⟨b, 1, none⟩ v') ∧ KeptM MW B w (w5.setCell ⟨b, 1, none⟩ v')) := by
          intro w5 v' hg hown
          have e1 : (ts2 ++ [bs q]).length = ts2.length + 1 := by simp
          obtain ⟨hb, h2⟩ := G4.setTexts (vt' := v') (ts' := ts2 ++ [bs q]) hg (by rw [e1]; simpa using hown) (by rw [e1]; exact hlen4)
          exact ⟨hb, h2, (K3.out.grown hg (t := tStr) (by decide) (fun k e => rowKind G4.texts k e)).setCell (p := ⟨b, 1, none⟩) G4.hB (t := tW) (by decide) (by rw [hb, kindOf]) _⟩
        clear g3 G4 k3
        go_wp2_with (at_builtin; refine wpList_append_own _ rfl _ _ 46 rfl B tStr is (.string ⟨#[]⟩) 1 16 Tryz.underlying46 his hs0 hs1 hs2 rfl (by decide) _ _ _ rfl own4 ⟨w2.heap.size, 0, none⟩ 1 1 [.string (bs q)] rfl rfl p1.out (by intro u hu; simp at hu; subst hu; rfl) p3 p4 p5 ?_)
        intro v5 w5 hown5 hg5 _
        obtain ⟨hb5, R5, K5⟩ := (FIN.out : ∀ _ _, _ → _ → _) w5 v5 hg5 hown5
        have d1' : w5.cell? ⟨b, 1, none⟩ = some vt2 := by rw [cellAt hb5]; rfl
        have g1' : w5.frozen? ⟨b, 1, none⟩ = false := Lib.frozen_of_heap hb5 1
        obtain ⟨ao5, n5, cap5, rfl⟩ : ∃ ao n cap, v5 = .slice ao n cap := by
          rcases hown5.2 with ⟨hv, _⟩ | ⟨g, cap, cur, hv, _⟩
          · exact ⟨_, _, _, hv⟩
          · exact ⟨_, _, _, hv⟩
        have d2 := R5.c2
        have G6 := R5.alloc (.cells #[.int .i64 r.out.length] tInt)
        have K6 := Lib.hid (K5.alloc (.cells #[.int .i64 r.out.length] tInt))
        have own6 := G6.marks
        have p6 := Lib.hid (one_new (w5.setCell ⟨b, 1, none⟩ (.slice ao5 n5 cap5)) (.int .i64 r.out.length) tInt)
        have p63 : ms2.length + 1 ≤ maxLen := by unfold maxLen; omega
        have p64 : (ms2.length + 1) * 8 ≤ 140737488355328 := by omega
        have p65 := G6.hw
        have hsz : (w5.setCell ⟨b, 1, none⟩ (.slice ao5 n5 cap5)).heap.size = w5.heap.size := by simp [World.setCell]
        rw [hsz] at p6
        have FIN6 : Hid (∀ (w7 : World) (v' : Value), ((w5.setCell ⟨b, 1, none⟩ (.slice ao5 n5 cap5)).alloc (.cells #[.int .i64 r.out.length] tInt)).grownBy w7 vm2.ownBlock → w7.ownsRow B tInt 1 v' (ms2.length + 1) (ms2.map (Value.int .i64) ++ [.int .i64 r.out.length]) →
            w7.heap[b]? = some (.cells (({ e r with cnt := (e r).cnt + 1 } : WR).cs vo2 (.slice ao5 n5 cap5) vm2 vb2) tW (0, 0)) ∧ Wr B b { e r with cnt := (e r).cnt + 1 } (w7.setCell ⟨b, 2, none⟩ v') ∧ KeptM MW B w (w7.setCell ⟨b, 2, none⟩ v')) := by
          intro w7 v' hg hown
          have e1 : (ms2 ++ [(r.out.length : Int)]).length = ms2.length + 1 := by simp
          obtain ⟨hb, h2⟩ := G6.setMarks (vm' := v') (ms' := ms2 ++ [(r.out.length : Int)]) hg (by rw [e1]; simpa using hown) (by rw [e1]; exact hlen3)
          exact ⟨hb, h2.wr, (K6.out.grown hg (t := tInt) (by decide) (fun k e => rowKind G6.marks k e)).setCell (p := ⟨b, 2, none⟩) G6.hB (t := tW) (by decide) (by rw [hb, kindOf]) _⟩
        clear FIN R5 K5 G6 hown5 hg5 hb5 K3 own4 p1 K6
        go_wp2_with (at_builtin; refine wpList_append_own _ rfl _ _ 45 rfl B tInt ii (.int .i64 0) 1 8 Tryz.underlying45 hii hi0 hi1 hi2 rfl (by decide) _ _ _ rfl own6 ⟨w5.heap.size, 0, none⟩ 1 1 [.int .i64 r.out.length] rfl rfl p6.out (by intro u hu; simp at hu; subst hu; rfl) p63 p64 p65 ?_)
        intro v7 w7 hown7 hg7 _
        obtain ⟨hb7, R7, K7⟩ := (FIN6.out : ∀ _ _, _ → _ → _) w7 v7 hg7 hown7
        have d2' : w7.cell? ⟨b, 2, none⟩ = some vm2 := by rw [cellAt hb7]; rfl
        have g2' : w7.frozen? ⟨b, 2, none⟩ = false := Lib.frozen_of_heap hb7 2
        obtain ⟨ao7, n7, cap7, rfl⟩ : ∃ ao n cap, v7 = .slice ao n cap := by
          rcases hown7.2 with ⟨hv, _⟩ | ⟨g, cap, cur, hv, _⟩
          · exact ⟨_, _, _, hv⟩
          · exact ⟨_, _, _, hv⟩
        clear FIN6 hown7 hg7 hb7 own6 p6
        go_wp2
        refine bodyPost_end (results_none rfl _ _ _) rfl ?_
        exact ⟨rfl, R7.cast (counted_false e hpl).symm, K7⟩
end Go.Proofs.YtidokamjbglkbaaGreatDoor

