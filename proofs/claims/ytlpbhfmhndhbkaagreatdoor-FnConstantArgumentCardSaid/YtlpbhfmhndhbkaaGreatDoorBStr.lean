/- The builder that lies in a reader: String. -/
import Derived.Test.YtlpbhfmhndhbkaaGreatDoorBase2
import Derived.Test.YtlpbhfmhndhbkaaGreatDoorAdv
import Derived.Lib.UnsafeStr
namespace Go.Proofs.YtlpbhfmhndhbkaaGreatDoor
open Go.RowKit

theorem freeze_other (w : World) (p : Addr) (n k : Nat) (h : k ≠ p.block) : (w.freeze p n).heap[k]? = w.heap[k]? := by
  unfold World.freeze
  split
  · rfl
  · simp only [Array.getElem?_modify]
    rw [if_neg (by omega)]

set_option maxHeartbeats 2000000 in
set_option maxRecDepth 100000 in
theorem bString (B b : Nat) (r : RS) (w : World) (h : Rst B b r w) (h0 : r.out ≠ []) :
    Calls Tryz.prog 48 #[.pointer (some ⟨b, 3, none⟩)] w fun e w' => e = .returned (.string (bs r.out)) ∧ Below B w w' ∧ w'.heap[b]? = w.heap[b]? := by
  obtain ⟨ad, buf, h⟩ := h.open
  have c4 := h.c4
  have hown := h.own
  have hl0 : r.out.length ≠ 0 := by simpa using h0
  obtain ⟨l, hl⟩ : ∃ l, l = r.out := ⟨_, rfl⟩
  rw [← hl] at hown hl0 ⊢
  obtain ⟨g, cap, cur, rfl, hbg, hg, hnc, hcm, hcs, htake⟩ : ∃ g cap cur, buf = .slice (some ⟨g, 0, none⟩) l.length cap ∧ B ≤ g ∧ w.heap[g]? = some (.cells cur tB (0, 0)) ∧ l.length ≤ cap ∧ cap ≤ maxLen ∧ cur.size = cap * 1 ∧ cur.toList.take (l.length * 1) = bv l := by
    rcases hown.2 with ⟨_, hz⟩ | ⟨g, cap, cur, hv, r⟩
    · exact absurd hz hl0
    · exact ⟨g, cap, cur, hv, r⟩
  have c1 : w.drew.cell? ⟨b, 4, none⟩ = some (.slice (some ⟨g, 0, none⟩) l.length cap) := c4
  have hSD : (Builtin.unsafeSliceData_ #[41] 101 #[.slice (some ⟨g, 0, none⟩) l.length cap]).run Tryz.prog w.drew = .ok (.pointer (some ⟨g, 0, none⟩)) w.drew :=
    Lib.run_unsafeSliceData_row _ _ _ _ _ _ (by omega)
  have hUS : (Builtin.unsafeString_ #[101, 3] 9 #[.pointer (some ⟨g, 0, none⟩), .int .i64 l.length]).run Tryz.prog w.drew = .ok (.string (bs l)) (w.drew.freeze ⟨g, 0, none⟩ l.length) := by
    refine Lib.run_unsafeString_row w.drew 101 3 9 tB Tryz.underlying101 (by kernel_rfl) g cur.size (by have hg' : w.drew.heap[g]? = some (.cells cur tB (0, 0)) := hg; simp [World.shape?, hg']) l (by intro e; rw [e] at hl0; exact hl0 rfl) (by omega) (by unfold maxLen at hcm; omega) ?_
    intro j x hx
    have := hown.cells (g := g) rfl j (.int .u8 x.toNat) (by simp [bv, hx])
    exact this
  have bf : Below B w (w.drew.freeze ⟨g, 0, none⟩ l.length) := Lib.below_freeze (Below.drew (Below.refl B w)) (p := ⟨g, 0, none⟩) hbg _
  have hgb : b ≠ g := fun e => Lib.ownBlock_ne h.own h.heap (by decide) (by rw [e]; rfl)
  have bh : (w.drew.freeze ⟨g, 0, none⟩ l.length).heap[b]? = w.heap[b]? := freeze_other _ _ _ _ hgb
  clear hgb
  clear hl h hown hg htake h0 hl0
  go_enter Tryz.func48, Tryz.ntmps48
  go_wp2
  go_region
  all_goals (go_wp2; go_ret; exact ⟨rfl, bf, bh⟩)
end Go.Proofs.YtlpbhfmhndhbkaaGreatDoor
