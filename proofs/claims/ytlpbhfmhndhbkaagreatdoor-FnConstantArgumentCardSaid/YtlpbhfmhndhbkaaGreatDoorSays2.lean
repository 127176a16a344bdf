/- Writing into the buffer by itself. -/
import Derived.Test.YtlpbhfmhndhbkaaGreatDoorFmt
namespace Go.Proofs.YtlpbhfmhndhbkaaGreatDoor
open Go.RowKit
section
variable {B b : Nat} {r0 : RS} {w0 w : World} {k txt : List UInt8} {G : Nat → Prop}
theorem At.bws (t : List UInt8) (h : At B b r0 w0 k txt G w) (hsk : r0.skip = false) (hl : r0.out.length + (txt.length + t.length) ≤ 1000000000) :
    Calls Tryz.prog 54 #[.pointer (some ⟨b, 3, none⟩), .string (bs t)] w fun e w' => e = .returned (.tuple #[.int .i64 t.length, .nilIface]) ∧ At B b r0 w0 k (txt ++ t) T0 w' := by
  obtain ⟨o, l, h1, h2, h3, h4⟩ := h
  have hb := RS.to_len r0 k o l txt
  refine (bWriteString B b _ (bs t) w h3 (by simp; omega)).mono ?_
  rintro e w' ⟨rfl, hr, hk⟩
  refine ⟨by simp, o, l, h1, fun _ => trivial, hr.cast ?_, h4.trans hk⟩
  simp [RS.to, hsk]

theorem At.setLast (n : Nat) (h : At B b r0 w0 k txt G w) : At B b r0 w0 k txt (fun l => l = n) (w.setCell ⟨b, 7, none⟩ (.int .u8 n)) := by
  obtain ⟨o, l, h1, h2, ⟨ad, buf, h3⟩, h4⟩ := h
  refine ⟨o, n, h1, fun _ => rfl, ⟨ad, buf, ?_⟩, h3.keeps h4 7 _⟩
  exact h3.setLast n rfl

theorem At.c7 (h : At B b r0 w0 k txt G w) : ∃ v, w.cell? ⟨b, 7, none⟩ = some v := by
  obtain ⟨_, _, _, _, ⟨ad, buf, h⟩, _⟩ := h; exact ⟨_, h.c7⟩
theorem At.tab (h : At B b r0 w0 k txt G w) : Tabs B w := by
  obtain ⟨_, _, _, _, h, _⟩ := h; exact h.tab
end
end Go.Proofs.YtlpbhfmhndhbkaaGreatDoor
