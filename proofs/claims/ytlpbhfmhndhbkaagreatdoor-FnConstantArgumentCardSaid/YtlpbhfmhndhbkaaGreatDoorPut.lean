/- put. -/
import Derived.Test.YtlpbhfmhndhbkaaGreatDoorWr
import Derived.Test.YtlpbhfmhndhbkaaGreatDoorAdv
import Derived.Test.YtlpbhfmhndhbkaaGreatDoorPure
namespace Go.Proofs.YtlpbhfmhndhbkaaGreatDoor
open Go.RowKit

/-- What put makes of a writer. -/
def WR.put (r : WR) (l : List UInt8) : WR := if l = [] then r else { r with out := r.out ++ (sepOf r.empty l ++ l), empty := false }

set_option maxHeartbeats 2000000 in
set_option maxRecDepth 100000 in
theorem put_plain (B b : Nat) (r : WR) (c : UInt8) (l : List UInt8) (w : World) (h : Wr B b r w) (hl : r.out.length + (c :: l).length ≤ 1000000000)
    (hc : r.empty = false ∨ (r.empty = true ∧ ((c.toNat : Int) == 95) = false ∧ decide (48 ≤ (c.toNat : Int)) = false) ∨ (r.empty = true ∧ ((c.toNat : Int) == 95) = false ∧ decide (48 ≤ (c.toNat : Int)) = true ∧ decide ((c.toNat : Int) ≤ 57) = false)) :
    Calls Tryz.prog 28 #[.pointer (some ⟨b, 0, none⟩), .string (bs (c :: l))] w fun e w' => e = .returned (.tuple #[]) ∧ Wr B b { r with out := r.out ++ (c :: l), empty := false } w' ∧ KeptM MW B w w' := by
  obtain ⟨vo, vt, vm, vb, ts, ms, h⟩ := h
  obtain ⟨i0, hi, hz0, hz1, hz2⟩ := info_parts infoB
  have c6 := h.c6
  have g6 := h.fz 6
  have c0 := h.c0
  have hll : l.length ≤ 1000000000 := by simp at hl; omega
  have hol : r.out.length + (l.length + 1) ≤ 1000000000 := by simpa using hl
  have fin : ∀ (w2 : World) (v' : Value), (w.setCell ⟨b, 6, none⟩ (.bool false)).grownBy w2 vo.ownBlock → w2.ownsRow B tB 1 v' (r.out.length + (bs (c :: l)).size) (bv r.out ++ Lib.strCells (bs (c :: l))) →
      w2.heap[b]? = some (.cells (({ r with empty := false } : WR).cs vo vt vm vb) tW (0, 0)) ∧ Wr B b { r with out := r.out ++ (c :: l), empty := false } (w2.setCell ⟨b, 0, none⟩ v') ∧ KeptM MW B w (w2.setCell ⟨b, 0, none⟩ v') := by
    intro w2 v' hg hown
    have h1 := h.setEmpty false
    have hown2 : w2.ownsRow B tB 1 v' (r.out ++ (c :: l)).length (bv (r.out ++ (c :: l))) := by
      rw [strCells_bv, bs_list] at hown
      have e1 : (r.out ++ (c :: l)).length = r.out.length + (bs (c :: l)).size := by simp
      rw [e1]; simpa [bv] using hown
    obtain ⟨hb, h2⟩ := h1.setOut hg hown2 (by simp)
    exact ⟨hb, h2.wr, ((h.keeps (KeptM.refl w) 6 _).grown hg (t := tB) (by decide) (fun k e => rowKind h1.out k e)).setCell (p := ⟨b, 0, none⟩) h.hB (t := tW) (by decide) (by rw [hb, kindOf]) _⟩
  have FIN := Lib.hid fin
  have hown := (h.setEmpty false).out
  have hBw : B ≤ w.heap.size := h.hw
  have c0' : (w.setCell ⟨b, 6, none⟩ (.bool false)).cell? ⟨b, 0, none⟩ = some vo := (h.setEmpty false).c0
  have ht : (bs (c :: l)).toList.isEmpty = false := by rw [ByteArray.toList_eq]; rfl
  have h63 : r.out.length + (bs (c :: l)).size ≤ maxLen := by simp; unfold maxLen; omega
  have h64 : r.out.length + (bs (c :: l)).size ≤ 140737488355328 := by simp; omega
  have hBw' : B ≤ (w.setCell ⟨b, 6, none⟩ (.bool false)).heap.size := by simpa [World.setCell] using hBw
  clear fin h hl
  rcases hc with he | ⟨he, h95, hlt⟩ | ⟨he, h95, hgt, hgt2⟩
  all_goals
    rw [he] at c6
    clear he
    go_enter Tryz.func28, Tryz.ntmps28
    go_wp2_with (at_builtin; refine Lib.wpList_append_own_string _ rfl _ _ 41 9 rfl B tB i0 Tryz.underlying41 Tryz.underlying9 hi hz0 hz1 hz2 _ _ _ rfl hown (bs (c :: l)) rfl h63 h64 hBw' ?_)
    intro v' w2 hown' hgrow _
    obtain ⟨hb2, R, K⟩ := (FIN : ∀ _ _, _ → _ → _) w2 v' hgrow (by simpa using hown')
    have d0 : w2.cell? ⟨b, 0, none⟩ = some vo := by rw [cellAt hb2]; rfl
    have g0 : w2.frozen? ⟨b, 0, none⟩ = false := Lib.frozen_of_heap hb2 0
    obtain ⟨ao, n', cap, rfl⟩ : ∃ ao n' cap, v' = .slice ao n' cap := by
      rcases hown'.2 with ⟨hv, _⟩ | ⟨g, cap, cur, hv, _⟩
      · exact ⟨_, _, _, hv⟩
      · exact ⟨_, _, _, hv⟩
    clear hown' hgrow hown hb2 FIN
    go_wp2
    go_end0
    exact ⟨rfl, R, K⟩

theorem put_nil (b : Nat) (w : World) : Calls Tryz.prog 28 #[.pointer (some ⟨b, 0, none⟩), .string (bs [])] w fun e w' => e = .returned (.tuple #[]) ∧ w = w' := by
  have ht : (bs []).toList.isEmpty = true := by rw [ByteArray.toList_eq]; rfl
  go_enter Tryz.func28, Tryz.ntmps28
  go_wp2
  refine bodyPost_ret (results_none rfl _ _ _) rfl ?_
  exact ⟨rfl, rfl⟩

set_option maxHeartbeats 2000000 in
set_option maxRecDepth 100000 in
theorem put_sep (B b : Nat) (r : WR) (c : UInt8) (l : List UInt8) (w : World) (h : Wr B b r w) (hl : r.out.length + (c :: l).length + 1 ≤ 1000000000) (he : r.empty = true)
    (hc : ((c.toNat : Int) == 95) = true ∨ (((c.toNat : Int) == 95) = false ∧ decide (48 ≤ (c.toNat : Int)) = true ∧ decide ((c.toNat : Int) ≤ 57) = true)) :
    Calls Tryz.prog 28 #[.pointer (some ⟨b, 0, none⟩), .string (bs (c :: l))] w fun e w' => e = .returned (.tuple #[]) ∧ Wr B b { r with out := r.out ++ (95 :: c :: l), empty := false } w' ∧ KeptM MW B w w' := by
  obtain ⟨vo, vt, vm, vb, ts, ms, h⟩ := h
  obtain ⟨i0, hi, hz0, hz1, hz2⟩ := info_parts infoB
  have c6 := h.c6
  have g6 := h.fz 6
  have c0 := h.c0
  have ht : (bs (c :: l)).toList.isEmpty = false := by rw [ByteArray.toList_eq]; rfl
  rw [he] at c6
  clear he
  have hown := h.out
  have hBw : B ≤ w.heap.size := h.hw
  have hol : r.out.length + (l.length + 1) + 1 ≤ 1000000000 := by simpa using hl
  have h1 : WrV B b r vo vt vm vb ts ms (w.alloc (.cells #[.int .u8 (95 : UInt8).toNat] tB)) := h.alloc _
  have p1 : ∀ (j : Nat) (u : Value), ([.int .u8 (95 : UInt8).toNat] : List Value)[j]? = some u → (w.alloc (.cells #[.int .u8 (95 : UInt8).toNat] tB)).cell? ((⟨w.heap.size, 0, none⟩ : Addr).add j) = some u := by
    intro j u hj
    match j, hj with
    | 0, hj => simp at hj; subst hj; simp [Addr.add]
  have p3 : r.out.length + 1 ≤ maxLen := by unfold maxLen; omega
  have p4 : (r.out.length + 1) * 1 ≤ 140737488355328 := by omega
  have p5 : B ≤ (w.alloc (.cells #[.int .u8 (95 : UInt8).toNat] tB)).heap.size := by simp; omega
  have hown0 := h1.out
  have k1 : KeptM MW B w (w.alloc (.cells #[.int .u8 (95 : UInt8).toNat] tB)) := (KeptM.refl w).alloc _
  have fin : ∀ (w2 : World) (v' : Value), (w.alloc (.cells #[.int .u8 (95 : UInt8).toNat] tB)).grownBy w2 vo.ownBlock → w2.ownsRow B tB 1 v' (r.out.length + 1) (bv r.out ++ [.int .u8 (95 : UInt8).toNat]) →
      w2.heap[b]? = some (.cells (r.cs vo vt vm vb) tW (0, 0)) ∧ WrV B b { r with out := r.out ++ [95], empty := false } v' vt vm vb ts ms ((w2.setCell ⟨b, 0, none⟩ v').setCell ⟨b, 6, none⟩ (.bool false)) ∧ KeptM MW B w ((w2.setCell ⟨b, 0, none⟩ v').setCell ⟨b, 6, none⟩ (.bool false)) := by
    intro w2 v' hg hown
    have hown2 : w2.ownsRow B tB 1 v' (r.out ++ [95]).length (bv (r.out ++ [95])) := by
      have e1 : (r.out ++ [(95 : UInt8)]).length = r.out.length + 1 := by simp
      rw [e1]; simpa [bv] using hown
    obtain ⟨hb, h2⟩ := h1.setOut hg hown2 (by simp)
    exact ⟨hb, h2.setEmpty false, h2.keeps ((k1.grown hg (t := tB) (by decide) (fun k e => rowKind h1.out k e)).setCell (p := ⟨b, 0, none⟩) h.hB (t := tW) (by decide) (by rw [hb, kindOf]) _) 6 _⟩
  have FIN := Lib.hid fin
  have P1 := Lib.hid p1
  clear fin h hl h1 k1 p1
  rcases hc with h95 | ⟨h95, hgt, hgt2⟩
  all_goals
    go_enter Tryz.func28, Tryz.ntmps28
    go_wp2_with (at_builtin; refine wpList_append_own _ rfl _ _ 41 rfl B tB i0 (.int .u8 0) 1 1 Tryz.underlying41 hi hz0 hz1 hz2 rfl (by decide) _ _ _ rfl hown0 ⟨w.heap.size, 0, none⟩ 1 1 [.int .u8 (95 : UInt8).toNat] rfl rfl P1 (by intro u hu; simp at hu; subst hu; rfl) p3 p4 p5 ?_)
    intro v' w2 hown' hgrow _
    obtain ⟨hb2, R, K⟩ := (FIN : ∀ _ _, _ → _ → _) w2 v' hgrow (by simpa using hown')
    have d0 : w2.cell? ⟨b, 0, none⟩ = some vo := by rw [cellAt hb2]; rfl
    have g0 : w2.frozen? ⟨b, 0, none⟩ = false := Lib.frozen_of_heap hb2 0
    have d6 : (w2.setCell ⟨b, 0, none⟩ v').cell? ⟨b, 6, none⟩ = some (.bool r.empty) := by
      rw [cellAt (setCell_heap hb2 0 v')]; rfl
    have g6' : (w2.setCell ⟨b, 0, none⟩ v').frozen? ⟨b, 6, none⟩ = false := Lib.frozen_of_heap (setCell_heap hb2 0 v') 6
    obtain ⟨ao, n', cap, rfl⟩ : ∃ ao n' cap, v' = .slice ao n' cap := by
      rcases hown'.2 with ⟨hv, _⟩ | ⟨g, cap, cur, hv, _⟩
      · exact ⟨_, _, _, hv⟩
      · exact ⟨_, _, _, hv⟩
    clear hown' hgrow hown hb2 FIN P1 hown0
    have own2 := R.out
    have c0' := R.c0
    have h63 : (r.out ++ [95]).length + (bs (c :: l)).size ≤ maxLen := by simp; unfold maxLen; omega
    have h64 : (r.out ++ [95]).length + (bs (c :: l)).size ≤ 140737488355328 := by simp; omega
    have hBw' := R.hw
    have fin : ∀ (w4 : World) (v' : Value), ((w2.setCell ⟨b, 0, none⟩ (.slice ao n' cap)).setCell ⟨b, 6, none⟩ (.bool false)).grownBy w4 (Value.slice ao n' cap).ownBlock → w4.ownsRow B tB 1 v' ((r.out ++ [95]).length + (bs (c :: l)).size) (bv (r.out ++ [95]) ++ Lib.strCells (bs (c :: l))) →
        w4.heap[b]? = some (.cells (({ r with out := r.out ++ [95], empty := false } : WR).cs (.slice ao n' cap) vt vm vb) tW (0, 0)) ∧ Wr B b { r with out := r.out ++ (95 :: c :: l), empty := false } (w4.setCell ⟨b, 0, none⟩ v') ∧ KeptM MW B w (w4.setCell ⟨b, 0, none⟩ v') := by
      intro w4 v' hg hown
      have hown2 : w4.ownsRow B tB 1 v' (r.out ++ (95 :: c :: l)).length (bv (r.out ++ (95 :: c :: l))) := by
        rw [strCells_bv, bs_list] at hown
        have e1 : (r.out ++ (95 :: c :: l)).length = (r.out ++ [95]).length + (bs (c :: l)).size := by simp; omega
        rw [e1]; simpa [bv] using hown
      obtain ⟨hb, h2⟩ := R.setOut hg hown2 (by simp)
      exact ⟨hb, h2.wr, (K.grown hg (t := tB) (by decide) (fun k e => rowKind R.out k e)).setCell (p := ⟨b, 0, none⟩) R.hB (t := tW) (by decide) (by rw [hb, kindOf]) _⟩
    have FIN := Lib.hid fin
    clear fin R K
    go_wp2_with (at_builtin; refine Lib.wpList_append_own_string _ rfl _ _ 41 9 rfl B tB i0 Tryz.underlying41 Tryz.underlying9 hi hz0 hz1 hz2 _ _ _ rfl own2 (bs (c :: l)) rfl h63 h64 hBw' ?_)
    intro v' w4 hown' hgrow _
    obtain ⟨hb4, R, K⟩ := (FIN : ∀ _ _, _ → _ → _) w4 v' hgrow (by simpa using hown')
    have d0 : w4.cell? ⟨b, 0, none⟩ = some (.slice ao n' cap) := by rw [cellAt hb4]; rfl
    have g0 : w4.frozen? ⟨b, 0, none⟩ = false := Lib.frozen_of_heap hb4 0
    obtain ⟨ao', n'', cap', rfl⟩ : ∃ ao n' cap, v' = .slice ao n' cap := by
      rcases hown'.2 with ⟨hv, _⟩ | ⟨g, cap, cur, hv, _⟩
      · exact ⟨_, _, _, hv⟩
      · exact ⟨_, _, _, hv⟩
    clear hown' hgrow own2 hb4 FIN
    go_wp2
    go_end0
    exact ⟨rfl, R, K⟩

/-- A text is put behind. -/
theorem put_any (B b : Nat) (r : WR) (l : List UInt8) (w : World) (h : Wr B b r w) (hl : r.out.length + l.length + 1 ≤ 1000000000) :
    Calls Tryz.prog 28 #[.pointer (some ⟨b, 0, none⟩), .string (bs l)] w fun e w' => e = .returned (.tuple #[]) ∧ Wr B b (r.put l) w' ∧ KeptM MW B w w' := by
  cases l with
  | nil =>
    refine (put_nil b w).mono ?_
    rintro e w' ⟨rfl, rfl⟩
    exact ⟨rfl, by simpa [WR.put] using h, KeptM.refl _⟩
  | cons c l =>
    have e0 : r.put (c :: l) = { r with out := r.out ++ (sepOf r.empty (c :: l) ++ (c :: l)), empty := false } := by simp [WR.put]
    have pl : (r.empty && startsDU (c :: l)) = false → r.put (c :: l) = { r with out := r.out ++ (c :: l), empty := false } := by
      intro h; rw [e0]; simp [sepOf, h]
    cases he : r.empty with
    | false =>
      refine (put_plain B b r c l w h (by simpa [Nat.add_assoc] using (by simp at hl ⊢; omega : r.out.length + (c :: l).length ≤ 1000000000)) (.inl he)).mono ?_
      rintro e w' ⟨rfl, h1, k⟩
      rw [pl (by simp [he])]
      exact ⟨rfl, h1, k⟩
    | true =>
      by_cases hs : startsDU (c :: l) = true
      · refine (put_sep B b r c l w h (by omega) he ?_).mono ?_
        · unfold startsDU at hs
          simp only [Bool.or_eq_true, Bool.and_eq_true, decide_eq_true_eq] at hs
          by_cases h5 : c.toNat = 95
          · exact .inl (by rw [h5]; decide)
          · refine .inr ⟨by rw [beq_eq_false_iff_ne]; omega, ?_, ?_⟩
            · simp; omega
            · simp; omega
        · rintro e w' ⟨rfl, h1, k⟩
          have e1 : sepOf r.empty (c :: l) = [95] := by simp [sepOf, he, hs]
          rw [e0, e1]
          exact ⟨rfl, h1, k⟩
      · have hs' : startsDU (c :: l) = false := by simpa using hs
        refine (put_plain B b r c l w h (by simp at hl ⊢; omega) (.inr ?_)).mono ?_
        · unfold startsDU at hs'
          simp only [Bool.or_eq_false_iff, Bool.and_eq_false_iff, decide_eq_false_iff_not] at hs'
          obtain ⟨h5, h6⟩ := hs'
          have h5' : ((c.toNat : Int) == 95) = false := by rw [beq_eq_false_iff_ne]; omega
          rcases Nat.lt_or_ge c.toNat 48 with h | h
          · exact .inl ⟨he, h5', by simp; omega⟩
          · exact .inr ⟨he, h5', by simp; omega, by simp; omega⟩
        · rintro e w' ⟨rfl, h1, k⟩
          rw [pl (by simp [hs'])]
          exact ⟨rfl, h1, k⟩
end Go.Proofs.YtlpbhfmhndhbkaaGreatDoor
