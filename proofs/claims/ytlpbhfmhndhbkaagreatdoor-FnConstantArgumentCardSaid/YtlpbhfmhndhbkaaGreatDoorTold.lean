/- impl.Told. -/
import Derived.Test.YtlpbhfmhndhbkaaGreatDoorTop
namespace Go.Proofs.YtlpbhfmhndhbkaaGreatDoor
open Go.RowKit

/-- No options. -/
abbrev noOpts : Value := .agg #[.bool false, .bool false, .bool false, .bool false, .bool false, .bool false, .bool false, .int .i64 0]

set_option maxHeartbeats 4000000 in
set_option maxRecDepth 100000 in
theorem list_none (w : World) : Calls Tryz.prog 23 #[noOpts] w fun e w' => e = .returned (.slice none 0 0) ∧ Below w.heap.size w w' := by
  go_enter Tryz.func23, Tryz.ntmps23
  go_wp2
  go_ret
  exact ⟨rfl, (Below.refl _ _).alloc (Nat.le_refl _) _⟩

/-- A whole name is read. -/
def ReadAs (s txt : List UInt8) : Prop := ∀ (B : Nat) (w : World), Tabs B w → B ≤ w.heap.size →
  Calls Tryz.prog 40 #[.string (bs s), .slice none 0 0] w fun e w' => e = .returned (.tuple #[.string (bs txt), .nilIface]) ∧ Below w.heap.size w w'

set_option maxHeartbeats 4000000 in
set_option maxRecDepth 100000 in
theorem told_any (s txt : List UInt8) (h : ReadAs s txt) (B : Nat) (w : World) (hT : Tabs B w) (hB : B ≤ w.heap.size) :
    Calls Tryz.prog 12 #[.string (bs s), noOpts] w fun e w' => e = .returned (.tuple #[.string (bs txt), .int .i64 0]) ∧ Below w.heap.size w w' := by
  have HH := Lib.hid h
  have HT := Lib.hid hT
  clear h hT
  go_enter Tryz.func12, Tryz.ntmps12
  go_wp2_with (go_at_call 23; refine (list_none _).mono ?_)
  rintro e w1 ⟨rfl, b1⟩
  have b2 := ((Below.refl w.heap.size w).alloc (Nat.le_refl _) _).trans (b1.mono (by simp))
  have T2 := Lib.hid (HT.out.same fun k hk => b2.block k (by omega))
  have B2 := Lib.hid b2
  have S2 := b2.size
  have S3 := Lib.hid (show B ≤ w1.heap.size by omega)
  clear b1 b2 S2
  go_wp2_with (first
    | (go_at_call 40; refine (HH.out B _ T2.out S3.out).mono ?_)
    | (go_at_call 22; go_in))
  rintro e w3 ⟨rfl, b3⟩
  have b4 := B2.out.trans (b3.mono B2.out.size)
  clear b3 T2
  go_wp2
  go_ret2
  exact ⟨rfl, b4⟩
end Go.Proofs.YtlpbhfmhndhbkaaGreatDoor
