/- symbolName. -/
import Derived.Test.YtlpbhfmhndhbkaaGreatDoorSays
import Derived.Test.YtlpbhfmhndhbkaaGreatDoorScan2
namespace Go.Proofs.YtlpbhfmhndhbkaaGreatDoor
open Go.RowKit

set_option maxHeartbeats 4000000 in
set_option maxRecDepth 100000 in
theorem symbol_any (lb : Nat) (sk : Bool) (c : UInt8) (inp txt : List UInt8) (G : Nat → Prop) (hp : Says 83 #[.bool true] lb sk (c :: inp) [] txt G) (hc : c.toNat < 48 ∨ 57 < c.toNat) :
    Says 65 #[] lb sk (c :: inp) [] txt G := by
  intro B b r w hr hsk hlb hi ho
  have c1 : w.cell? ⟨b, 1, none⟩ = some (.string (bs r.str)) := by obtain ⟨ad, buf, h'⟩ := hr; exact h'.c1
  rw [hi] at c1
  have HI := Lib.hid hi
  have HSK := Lib.hid hsk
  have HLB := Lib.hid hlb
  have HC := Lib.hid hc
  have A := At.start hr
  rw [hi] at A
  have HO := Lib.hid ho
  clear hi hsk hlb hc ho
  go_enter Tryz.func65, Tryz.ntmps65
  go_wp2_with (first
    | (go_at_call 82; refine (isDigit_no c.toNat _ HC.out).mono ?_; rintro e w' ⟨rfl, rfl⟩)
    | (go_at_call 83; refine (A.says hp HSK.out HLB.out (fun e => by simpa using HO.out e)).mono ?_))
  rintro e w1 ⟨rfl, A'⟩
  clear c1 A
  have c1 := A'.c1
  go_wp2
  go_end0
  exact A'.to rfl rfl |>.post HI.out (Kept.refl B w)
end Go.Proofs.YtlpbhfmhndhbkaaGreatDoor
