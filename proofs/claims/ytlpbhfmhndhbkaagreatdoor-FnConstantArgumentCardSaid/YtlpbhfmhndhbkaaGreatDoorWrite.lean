/- writeByte, writeString. -/
import Derived.Test.YtlpbhfmhndhbkaaGreatDoorAdv
namespace Go.Proofs.YtlpbhfmhndhbkaaGreatDoor
open Go.RowKit

set_option maxHeartbeats 1000000 in
set_option maxRecDepth 100000 in
theorem writeByte_any (B b : Nat) (r : RS) (c : UInt8) (w : World) (h : Rst B b r w) (hl : r.skip = false → r.out.length + 1 ≤ 140737488355328) :
    Calls Tryz.prog 52 #[.pointer (some ⟨b, 0, none⟩), .int .u8 c.toNat] w fun e w' => e = .returned (.tuple #[]) ∧
      Rst B b (r.wr [c]) w' ∧ Kept B w w' := by
  obtain ⟨ad, buf, h⟩ := h.open
  have c5 := h.c5
  cases hs : r.skip with
  | true =>
    rw [hs] at c5
    rw [RS.wr_skip _ _ hs]
    clear hs hl
    go_enter Tryz.func52, Tryz.ntmps52
    go_wp2
    refine bodyPost_ret (results_none rfl _ _ _) rfl ?_
    exact ⟨rfl, h.rst, Kept.refl B w⟩
  | false =>
    rw [hs] at c5
    have HS : Hid (r.skip = false) := hs
    have hl := hl hs
    clear hs
    have c9 := h.c9
    have g7 := h.fz 7
    have c7 := h.c7
    go_enter Tryz.func52, Tryz.ntmps52
    go_wp2
    go_quiet (fail)
    go_wp2_with fail
    refine (bWriteByte B b { r with last := c.toNat } c _ (((h.drewN _).setLast c.toNat rfl).rst) hl).mono ?_
    rintro e w' ⟨rfl, hr, hk⟩
    go_wp2
    go_end0
    refine ⟨rfl, ?_, (((h.drewN _).keeps ((Kept.refl B w).drewN _) 7 _)).trans hk⟩
    rw [RS.wr_say _ _ HS.out]
    exact hr

theorem last_byte (s : ByteArray) (hz : 0 < s.size) : (s.data.toList.getLast?.map UInt8.toNat).getD 0 = s[s.size - 1].toNat ∧ ∀ n, (s.data.toList.getLast?.map UInt8.toNat).getD n = s[s.size - 1].toNat := by
  have h : s.data.toList.getLast? = some s[s.size - 1] := by
    rw [List.getLast?_eq_getElem?]
    simp only [Array.length_toList, Array.getElem?_toList]
    exact Array.getElem?_eq_getElem _
  simp [h]

set_option maxHeartbeats 1000000 in
set_option maxRecDepth 100000 in
theorem writeString_any (B b : Nat) (r : RS) (s : ByteArray) (w : World) (h : Rst B b r w) (hl : r.skip = false → r.out.length + s.size ≤ 140737488355328) :
    Calls Tryz.prog 53 #[.pointer (some ⟨b, 0, none⟩), .string s] w fun e w' => e = .returned (.tuple #[]) ∧
      Rst B b (r.wr s.data.toList) w' ∧ Kept B w w' := by
  obtain ⟨ad, buf, h⟩ := h.open
  have c5 := h.c5
  cases hs : r.skip with
  | true =>
    rw [hs] at c5
    rw [RS.wr_skip _ _ hs]
    clear hs hl
    go_enter Tryz.func53, Tryz.ntmps53
    go_wp2
    refine bodyPost_ret (results_none rfl _ _ _) rfl ?_
    exact ⟨rfl, h.rst, Kept.refl B w⟩
  | false =>
    rw [hs] at c5
    have HS : Hid (r.skip = false) := hs
    have hl := hl hs
    clear hs
    have c9 := h.c9
    have g7 := h.fz 7
    have c7 := h.c7
    by_cases hz : 0 < s.size
    · obtain ⟨d, hd⟩ : ∃ d : UInt8, d = s[s.size - 1] := ⟨_, rfl⟩
      have HD : Hid (d = s[s.size - 1]) := hd
      clear hd
      have hz' : s.size ≤ 140737488355328 := by omega
      go_enter Tryz.func53, Tryz.ntmps53
      go_wp2
      go_quiet (fail)
      go_wp2_with fail
      refine (bWriteString B b { r with last := s[s.size - 1].toNat } s _ (((h.drewN _).setLast s[s.size - 1].toNat rfl).rst) hl).mono ?_
      rintro e w' ⟨rfl, hr, hk⟩
      go_wp2
      go_end0
      refine ⟨rfl, ?_, (((h.drewN _).keeps ((Kept.refl B w).drewN _) 7 _)).trans hk⟩
      rw [RS.wr_say _ _ HS.out, (last_byte s hz).2]
      exact hr
    · have hz0 : s.size = 0 := by omega
      have hs0 : s = ⟨#[]⟩ := by
        have : s.data = #[] := Array.eq_empty_of_size_eq_zero hz0
        cases s; simp_all
      subst hs0
      clear hz hz0 hl
      go_enter Tryz.func53, Tryz.ntmps53
      go_wp2
      go_quiet (fail)
      go_wp2
      go_end0
      refine ⟨rfl, ?_, (Kept.refl B w).drewN _⟩
      rw [RS.wr_say _ _ HS.out]
      simpa using (h.drewN _).rst

theorem writeText (B b : Nat) (r : RS) (l : List UInt8) (w : World) (h : Rst B b r w) (hl : r.skip = false → r.out.length + l.length ≤ 140737488355328) :
    Calls Tryz.prog 53 #[.pointer (some ⟨b, 0, none⟩), .string (bs l)] w fun e w' => e = .returned (.tuple #[]) ∧
      Rst B b (r.wr l) w' ∧ Kept B w w' := by
  have := writeString_any B b r (bs l) w h (by simpa using hl)
  simpa using this
end Go.Proofs.YtlpbhfmhndhbkaaGreatDoor
