/- advance, the builder's methods in a reader, writeByte, writeString. -/
import Derived.Test.YtlpbhfmhndhbkaaGreatDoorBase2
namespace Go.Proofs.YtlpbhfmhndhbkaaGreatDoor
open Go.RowKit

theorem advance_any (B b n : Nat) (r : RS) (w : World) (h : Rst B b r w) (hn : n ≤ r.str.length) :
    Calls Tryz.prog 51 #[.pointer (some ⟨b, 0, none⟩), .int .i64 n] w fun e w' =>
      e = .returned (.tuple #[]) ∧ Rst B b { r with str := r.str.drop n, off := r.off + n } w' ∧ Kept B w w' := by
  obtain ⟨ad, buf, h⟩ := h.open
  have c1 := h.c1
  have c2 := h.c2
  have g1 := h.fz 1
  have g2 := h.fz 2
  have hl := h.len
  go_enter Tryz.func51, Tryz.ntmps51
  go_wp2
  go_end0
  have k := h.setStr (r.str.drop n) (by simp; omega)
  exact ⟨rfl, (k.setOff (r.off + n) (by simp) (by simp; omega)).rst, k.keeps (h.keeps (Kept.refl B w) _ _) _ _⟩

set_option maxHeartbeats 1000000 in
set_option maxRecDepth 100000 in
/-- The builder that lies in a reader: copyCheck. -/
theorem check_used (b : Nat) (w : World) (h0 : w.cell? ⟨b, 3, none⟩ = some (.pointer (some ⟨b, 3, none⟩))) :
    Calls Tryz.prog 78 #[.pointer (some ⟨b, 3, none⟩)] w fun e w' => e = .returned (.tuple #[]) ∧ w = w' := by
  have hj : (Tryz.prog.info? 80).isSome = true := by kernel_rfl
  obtain ⟨j, hj⟩ := Option.isSome_iff_exists.1 hj
  go_enter Tryz.func78, Tryz.ntmps78
  go_wp2
  rw [Lib.run_neq_ptr_same w _ (by kernel_rfl) hj]
  go_wp2
  go_end0
  exact ⟨rfl, rfl⟩

set_option maxHeartbeats 1000000 in
set_option maxRecDepth 100000 in
theorem check_fresh (b : Nat) (cs : Array Value) (w : World) (hb : w.heap[b]? = some (.cells cs tR (0, 0))) (h0 : w.cell? ⟨b, 3, none⟩ = some (.pointer none)) (hsz : cs.size = 10) :
    Calls Tryz.prog 78 #[.pointer (some ⟨b, 3, none⟩)] w fun e w' => e = .returned (.tuple #[]) ∧ w.setCell ⟨b, 3, none⟩ (.pointer (some ⟨b, 3, none⟩)) = w' := by
  have hj : (Tryz.prog.info? 80).map (fun i => i.size) = some 2 := by kernel_rfl
  obtain ⟨j, hj, hjs⟩ := Option.map_eq_some_iff.1 hj
  have hsh : w.shape? (⟨b, 3, none⟩ : Addr).block = some (tR, 10) := by simp [World.shape?, hb, hsz]
  have hfz : w.frozen? ⟨b, 3, none⟩ = false := Lib.frozen_of_heap hb 3
  go_enter Tryz.func78, Tryz.ntmps78
  go_wp2
  rw [Lib.run_to_unsafe w ⟨b, 3, none⟩ (by kernel_rfl) (by kernel_rfl) hj (by rw [hjs]; decide) hsh (by show 3 < 10; decide)]
  simp only [Result.andThen]
  rw [Oper.upon_value]
  go_wp2
  rw [run_callFunc_extern Tryz.func88 (by kernel_rfl) (by kernel_rfl) (by kernel_rfl) (e := Extern.AbiNoEscape.same) (by kernel_rfl)]
  rw [Lib.run_noEscape]
  simp only [Result.andThen]
  rw [Oper.upon_value]
  go_wp2
  rw [Lib.run_from_unsafe w ⟨b, 3, none⟩ (by kernel_rfl) (by kernel_rfl) hj hsh (by kernel_rfl)]
  simp only [Result.andThen]
  rw [Oper.upon_value]
  go_wp2
  go_end0
  exact ⟨rfl, rfl⟩

theorem infoB : (Tryz.prog.info? tB).map (fun i => (i.zero, i.size, i.bytes)) = some (some (.int .u8 0), 1, 1) := by kernel_rfl

theorem check_any (B b : Nat) (r : RS) (ad buf : Value) (w : World) (h : RstV B b r ad buf w) :
    Calls Tryz.prog 78 #[.pointer (some ⟨b, 3, none⟩)] w fun e w' => e = .returned (.tuple #[]) ∧ RstV B b r (.pointer (some ⟨b, 3, none⟩)) buf w' ∧ Kept B w w' := by
  rcases h.addr with ⟨rfl, ho⟩ | rfl
  · refine (check_fresh b _ w h.heap h.c3 rfl).mono ?_
    rintro e w' ⟨rfl, rfl⟩
    refine ⟨rfl, ?_, h.keeps (Kept.refl B w) _ _⟩
    refine ⟨h.hB, by simpa [World.setCell] using h.hw, h.len, h.tab.same (fun k hk => Below.heap_setCell _ _ _ _ (by have := h.hB; simp; omega)), by rw [setCell_heap h.heap]; rfl, .inr rfl, ?_⟩
    refine h.own.kept (row := some b) ⟨rfl, rfl, rfl, by simp [World.setCell], fun k _ hk => Below.heap_setCell _ _ _ _ (fun e => hk (by simp [e]))⟩ ?_
    exact .inr (Lib.ownBlock_ne h.own h.heap (by decide))
  · refine (check_used b w h.c3).mono ?_
    rintro e w' ⟨rfl, rfl⟩
    exact ⟨rfl, h, Kept.refl B _⟩

theorem strCells_bv (s : ByteArray) : Lib.strCells s = bv s.data.toList := by simp [Lib.strCells, bv]

theorem row_kind {w : World} {B : Nat} {v : Value} {n : Nat} {xs : List Value} (h : w.ownsRow B tB 1 v n xs) : ∀ k, v.ownBlock = some k → B ≤ k ∧ kindOf w.heap[k]? = some tB := by
  intro k hk
  refine ⟨(h.lt k hk).1, ?_⟩
  rcases h.2 with ⟨rfl, _⟩ | ⟨g, cap, cur, rfl, _, hg, _⟩
  · simp [Value.ownBlock] at hk
  · simp only [Value.ownBlock, Option.some.injEq] at hk
    subst hk
    rw [hg]; rfl


section
variable {B b : Nat} {r : RS} {ad buf : Value} {w : World}
/-- A new buffer laid into the reader. -/
theorem RstV.setBuf (h : RstV B b r ad buf w) (hne : ad = .pointer (some ⟨b, 3, none⟩)) {w' : World} {buf' : Value} {l : List UInt8} (hg : w.grownBy w' buf.ownBlock)
    (hown : w'.ownsRow B tB 1 buf' l.length (bv l)) : RstV B b { r with out := l } ad buf' (w'.setCell ⟨b, 4, none⟩ buf') := by
  have hlt := h.rst.lt
  have hne' : buf.ownBlock ≠ some b := Lib.ownBlock_ne h.own h.heap (by decide)
  have hb : w'.heap[b]? = some (.cells (r.cs ad buf) tR (0, 0)) := by
    rw [hg.block b hlt (fun e => hne' e.symm)]; exact h.heap
  refine ⟨h.hB, by have := hg.size; have := h.hw; simp [World.setCell]; omega, h.len, h.tab.same (fun k hk => ?_), by rw [setCell_heap hb]; rfl, .inr hne, ?_⟩
  · rw [Below.heap_setCell _ _ _ _ (by have := h.hB; simp; omega)]
    exact hg.block k (by have := h.hw; omega) (fun e => by have := (row_kind h.own k e.symm).1; omega)
  refine hown.kept (row := some b) ⟨rfl, rfl, rfl, by simp [World.setCell], fun k _ hk => Below.heap_setCell _ _ _ _ (fun e => hk (by simp [e]))⟩ ?_
  exact .inr (Lib.ownBlock_ne hown hb (by decide))

theorem RstV.keptGrown {a : World} (h : RstV B b r ad buf w) (k : Kept B a w) {w' : World} (hg : w.grownBy w' buf.ownBlock) : Kept B a w' :=
  k.grown hg fun j hj => row_kind h.own j hj

end

set_option maxHeartbeats 2000000 in
set_option maxRecDepth 100000 in
theorem bWriteString (B b : Nat) (r : RS) (s : ByteArray) (w : World) (h : Rst B b r w) (hl : r.out.length + s.size ≤ 140737488355328) :
    Calls Tryz.prog 54 #[.pointer (some ⟨b, 3, none⟩), .string s] w fun e w' => e = .returned (.tuple #[.int .i64 s.size, .nilIface]) ∧
      Rst B b { r with out := r.out ++ s.data.toList } w' ∧ Kept B w w' := by
  obtain ⟨ad, buf, h⟩ := h.open
  obtain ⟨i0, hi, hz0, hz1, hz2⟩ := info_parts infoB
  go_enter Tryz.func54, Tryz.ntmps54
  go_wp2_with (go_at_call 78; refine (check_any B b r ad buf _ h).mono ?_)
  rintro e w1 ⟨rfl, h1, hk1⟩
  have c4 := h1.c4
  have hown := h1.own
  go_wp2_with (at_builtin; refine Lib.wpList_append_own_string _ rfl _ _ 41 9 rfl B tB i0 Tryz.underlying41 Tryz.underlying9 hi hz0 hz1 hz2 _ _ _ rfl hown s rfl ?c3 ?c4 ?c5 ?_)
  case c3 => unfold maxLen; omega
  case c4 => omega
  case c5 => exact h1.hw
  intro v' w2 hown' hgrow _
  have hown2 : w2.ownsRow B tB 1 v' (r.out ++ s.data.toList).length (bv (r.out ++ s.data.toList)) := by
    rw [strCells_bv] at hown'
    have e1 : (r.out ++ s.data.toList).length = r.out.length + s.size := by simp
    rw [e1]; simpa [bv] using hown'
  have hne' : buf.ownBlock ≠ some b := Lib.ownBlock_ne h1.own h1.heap (by decide)
  have hb2 : w2.heap[b]? = some (.cells (r.cs (.pointer (some ⟨b, 3, none⟩)) buf) tR (0, 0)) := by
    rw [hgrow.block b h1.rst.lt (fun e => hne' e.symm)]; exact h1.heap
  have d4 : w2.cell? ⟨b, 4, none⟩ = some buf := by rw [cellAt hb2]; rfl
  have g4 : w2.frozen? ⟨b, 4, none⟩ = false := Lib.frozen_of_heap hb2 4
  have R := (h1.setBuf rfl hgrow hown2).rst
  have K2 : Kept B w (w2.setCell ⟨b, 4, none⟩ v') :=
    (h1.keptGrown hk1 hgrow).setCell (p := ⟨b, 4, none⟩) (.inr ⟨h1.hB, by rw [hb2, kindOf]⟩) _
  obtain ⟨ao, n', cap, rfl⟩ : ∃ ao n' cap, v' = .slice ao n' cap := by
    rcases hown'.2 with ⟨hv, _⟩ | ⟨g, cap, cur, hv, _⟩
    · exact ⟨_, _, _, hv⟩
    · exact ⟨_, _, _, hv⟩
  clear hown' hown2 hgrow hown hb2
  go_wp2
  go_ret2
  exact ⟨rfl, R, K2⟩

set_option maxHeartbeats 2000000 in
set_option maxRecDepth 100000 in
theorem bWriteByte (B b : Nat) (r : RS) (c : UInt8) (w : World) (h : Rst B b r w) (hl : r.out.length + 1 ≤ 140737488355328) :
    Calls Tryz.prog 77 #[.pointer (some ⟨b, 3, none⟩), .int .u8 c.toNat] w fun e w' => e = .returned .nilIface ∧
      Rst B b { r with out := r.out ++ [c] } w' ∧ Kept B w w' := by
  obtain ⟨ad, buf, h⟩ := h.open
  obtain ⟨i0, hi, hz0, hz1, hz2⟩ := info_parts infoB
  go_enter Tryz.func77, Tryz.ntmps77
  go_wp2_with (go_at_call 78; refine (check_any B b r ad buf _ h).mono ?_)
  rintro e w1 ⟨rfl, h1, hk1⟩
  have c4 := h1.c4
  have hown := h1.own
  go_wp2_with (at_builtin; refine wpList_append_own _ rfl _ _ 41 rfl B tB i0 (.int .u8 0) 1 1 Tryz.underlying41 hi hz0 hz1 hz2 rfl (by decide) _ _ _ rfl (hown.alloc _) ⟨w1.heap.size, 0, none⟩ 1 1 [.int .u8 c.toNat] rfl rfl ?c1 ?c2 ?c3 ?c4 ?c5 ?_)
  case c1 =>
    intro j u hj
    match j, hj with
    | 0, hj => simp at hj; subst hj; simp [Addr.add]
  case c2 => intro u hu; simp at hu; subst hu; rfl
  case c3 => unfold maxLen; omega
  case c4 => omega
  case c5 => have := h1.hw; simp; omega
  intro v' w2 hown' hgrow _
  have h1a := h1.alloc (.cells #[.int .u8 c.toNat] tB)
  have hown2 : w2.ownsRow B tB 1 v' (r.out ++ [c]).length (bv (r.out ++ [c])) := by
    have e1 : (r.out ++ [c]).length = r.out.length + 1 := by simp
    rw [e1]; simpa [bv] using hown'
  have hne' : buf.ownBlock ≠ some b := Lib.ownBlock_ne h1.own h1.heap (by decide)
  have hb2 : w2.heap[b]? = some (.cells (r.cs (.pointer (some ⟨b, 3, none⟩)) buf) tR (0, 0)) := by
    rw [hgrow.block b h1a.rst.lt (fun e => hne' e.symm)]; exact h1a.heap
  have d4 : w2.cell? ⟨b, 4, none⟩ = some buf := by rw [cellAt hb2]; rfl
  have g4 : w2.frozen? ⟨b, 4, none⟩ = false := Lib.frozen_of_heap hb2 4
  have R := (h1a.setBuf rfl hgrow hown2).rst
  have K2 : Kept B w (w2.setCell ⟨b, 4, none⟩ v') :=
    (h1a.keptGrown (hk1.alloc _) hgrow).setCell (p := ⟨b, 4, none⟩) (.inr ⟨h1.hB, by rw [hb2, kindOf]⟩) _
  obtain ⟨g, cap, rfl⟩ : ∃ g cap, v' = .slice (some ⟨g, 0, none⟩) (r.out.length + 1) cap := by
    rcases hown'.2 with ⟨_, h0⟩ | ⟨g, cap, cur, hv, _⟩
    · omega
    · exact ⟨g, cap, hv⟩
  clear hown' hown2 hgrow hown hb2 h1a
  go_wp2
  go_ret
  exact ⟨rfl, R, K2⟩
end Go.Proofs.YtlpbhfmhndhbkaaGreatDoor
