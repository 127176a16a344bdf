/- RustPiece, RustName. -/
import Derived.Test.YtlpbhfmhndhbkaaGreatDoorWPiece
namespace Go.Proofs.YtlpbhfmhndhbkaaGreatDoor
open Go.RowKit

/-- What RustPiece gives of a writer. -/
def pieceText (r : WR) : List UInt8 := if r.empty then r.out ++ [95] else r.out

set_option maxHeartbeats 4000000 in
set_option maxRecDepth 100000 in
theorem rustPiece_any (kd : Int) (c : UInt8) (nm : List UInt8) (m : Nat) (fl : Bool) (ks : Value) (P : Nat → World → Prop) (e : WR → WR) (n : Nat) (hP : Steady P)
    (hw : Writes 14 (.agg (rv kd c nm m fl ks)) P e n) (hn : n + 1 ≤ 1000000000) (he : (e (W0 false)).out.length ≤ n)
    (B : Nat) (w : World) (ht : Tabs B w) (hB : B ≤ w.heap.size) (hp : P B w) :
    Calls Tryz.prog 8 #[.agg (rv kd c nm m fl ks), .slice none 0 0] w fun en w' => en = .returned (.string (bs (pieceText (e (W0 false))))) ∧ Below w.heap.size w w' := by
  have b1 : Below w.heap.size w (w.alloc (.cells (rv kd c nm m fl ks) tRu)) := (Below.refl _ _).alloc (Nat.le_refl _) _
  have F := Lib.hid (Wr.fresh (ht.same fun k hk => (b1.mono hB).block k hk) (by simp; omega : B ≤ (w.alloc (.cells (rv kd c nm m fl ks) tRu)).heap.size) false)
  have p1 := Lib.hid (hP.2 _ (w.alloc (.cells (rv kd c nm m fl ks) tRu)).heap.size _ (hP.1 _ _ ((w.alloc (.cells (rv kd c nm m fl ks) tRu)).alloc (.cells ((W0 false).cs (.slice none 0 0) (.slice none 0 0) (.slice none 0 0) (.slice none 0 0)) tW)) hp ((b1.mono hB).alloc (by simp; omega) _)) (by simp; omega))
  have HW := Lib.hid hw
  have b2 := Lib.hid (b1.alloc (by simp) (.cells ((W0 false).cs (.slice none 0 0) (.slice none 0 0) (.slice none 0 0) (.slice none 0 0)) tW))
  clear b1 hw hp ht hB hP
  have e1 : (w.alloc (.cells (rv kd c nm m fl ks) tRu)).heap.size = w.heap.size + 1 := by simp
  rw [e1] at F p1
  clear e1
  have hl : (W0 false).out.length + n ≤ 1000000000 := by simp [W0]; omega
  have hl2 : (W0 false).cnt + n ≤ 1000000000 := by simp [W0]; omega
  obtain ⟨i0, hi, hz0, hz1, hz2⟩ := info_parts infoB
  go_enter Tryz.func8, Tryz.ntmps8
  go_wp2_with (go_at_call 14; refine (HW.out _ _ (W0 false) _ F.out p1.out hl hl2).mono ?_)
  rintro en w1 ⟨rfl, h1, k1⟩
  have b3 := b2.out.trans ((k1.below (by simp)).mono (by simp))
  clear k1 F p1 HW b2
  obtain ⟨r, hr⟩ : ∃ r, r = e (W0 false) := ⟨_, rfl⟩
  rw [← hr] at h1 he
  cases hem : r.empty with
  | false =>
    have c6 : w1.cell? ⟨w.heap.size + 1, 6, none⟩ = some (.bool false) := by
      obtain ⟨vo, vt, vm, vb, ts, ms, h⟩ := h1
      rw [← hem]; exact h.c6
    obtain ⟨vo, c0, cv⟩ := h1.text
    have E2 : Hid (pieceText (e (W0 false)) = r.out) := by rw [← hr]; show pieceText r = r.out; simp [pieceText, hem]
    clear h1 hr hem
    go_wp2
    go_ret
    exact ⟨by rw [E2.out]; rfl, b3⟩
  | true =>
    have E2 : Hid (pieceText (e (W0 false)) = r.out ++ [95]) := by rw [← hr]; show pieceText r = r.out ++ [95]; simp [pieceText, hem]
    obtain ⟨vo, vt, vm, vb, ts, ms, h⟩ := h1
    have c6 := h.c6
    rw [hem] at c6
    have d0 := h.c0
    have G := h.alloc (.cells #[.int .u8 (95 : UInt8).toNat] tB)
    have B3 := Lib.hid (b3.alloc (by have := b3.size; omega) (.cells #[.int .u8 (95 : UInt8).toNat] tB))
    have own := G.out
    have p1 := Lib.hid (one_new w1 (.int .u8 (95 : UInt8).toNat) tB)
    have p3 : r.out.length + 1 ≤ maxLen := by unfold maxLen; omega
    have p4 : (r.out.length + 1) * 1 ≤ 140737488355328 := by omega
    have p5 := G.hw
    have FIN : Hid (∀ (w2 : World) (v' : Value), (w1.alloc (.cells #[.int .u8 (95 : UInt8).toNat] tB)).grownBy w2 vo.ownBlock → w2.ownsRow (w.heap.size + 1) tB 1 v' (r.out.length + 1) (bv r.out ++ [.int .u8 (95 : UInt8).toNat]) →
        w2.heap[w.heap.size + 1]? = some (.cells (r.cs vo vt vm vb) tW (0, 0)) ∧ (w2.setCell ⟨w.heap.size + 1, 0, none⟩ v').cell? ⟨w.heap.size + 1, 0, none⟩ = some v' ∧
          (convert 41 9 v').run Tryz.prog (w2.setCell ⟨w.heap.size + 1, 0, none⟩ v') = .ok (.string (bs (r.out ++ [95]))) (w2.setCell ⟨w.heap.size + 1, 0, none⟩ v') ∧ Below w.heap.size w (w2.setCell ⟨w.heap.size + 1, 0, none⟩ v')) := by
      intro w2 v' hg hown
      have hown2 : w2.ownsRow (w.heap.size + 1) tB 1 v' (r.out ++ [95]).length (bv (r.out ++ [95])) := by
        have e1 : (r.out ++ [(95 : UInt8)]).length = r.out.length + 1 := by simp
        rw [e1]; simpa [bv] using hown
      obtain ⟨hb, h2⟩ := G.setOut hg hown2 (by simp)
      refine ⟨hb, h2.c0, conv_row h2.out, ?_⟩
      have g1 := B3.out.grown hg (by have := B3.out.size; exact this) (fun k e => by have := (rowKind G.out k e).1; omega)
      exact g1.setCell (p := ⟨w.heap.size + 1, 0, none⟩) (by simp) _
    clear h G b3 B3 hem hr
    go_wp2_with (at_builtin; refine wpList_append_own _ rfl _ _ 41 rfl (w.heap.size + 1) tB i0 (.int .u8 0) 1 1 Tryz.underlying41 hi hz0 hz1 hz2 rfl (by decide) _ _ _ rfl own ⟨w1.heap.size, 0, none⟩ 1 1 [.int .u8 (95 : UInt8).toNat] rfl rfl p1.out (by intro u hu; simp at hu; subst hu; rfl) p3 p4 p5 ?_)
    intro v' w2 hown' hg _
    obtain ⟨hb2, c0, cv, b4⟩ := (FIN.out : ∀ _ _, _ → _ → _) w2 v' hg (by simpa using hown')
    have d0' : w2.cell? ⟨w.heap.size + 1, 0, none⟩ = some vo := by rw [cellAt hb2]; rfl
    have g0' : w2.frozen? ⟨w.heap.size + 1, 0, none⟩ = false := Lib.frozen_of_heap hb2 0
    obtain ⟨ao', n', cap', rfl⟩ : ∃ ao n cap, v' = .slice ao n cap := by
      rcases hown'.2 with ⟨hv, _⟩ | ⟨g, cap, cur, hv, _⟩
      · exact ⟨_, _, _, hv⟩
      · exact ⟨_, _, _, hv⟩
    clear FIN hown' hg hb2 own p1
    go_wp2
    go_ret
    exact ⟨by rw [E2.out]; rfl, b4⟩
end Go.Proofs.YtlpbhfmhndhbkaaGreatDoor
