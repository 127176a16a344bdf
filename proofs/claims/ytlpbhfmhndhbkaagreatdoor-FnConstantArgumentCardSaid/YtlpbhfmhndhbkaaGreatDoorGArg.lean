/- genericArg. -/
import Derived.Test.YtlpbhfmhndhbkaaGreatDoorSays
namespace Go.Proofs.YtlpbhfmhndhbkaaGreatDoor
open Go.RowKit

set_option maxHeartbeats 4000000 in
set_option maxRecDepth 100000 in
theorem genericArg_K (lb : Nat) (sk : Bool) (inp k txt : List UInt8) (G : Nat → Prop) (h : Says 33 #[] lb sk inp k txt G) : Says 120 #[] lb sk (75 :: inp) k txt G := by
  intro B b r w hr hsk hlb hi ho
  have c1 : w.cell? ⟨b, 1, none⟩ = some (.string (bs r.str)) := by obtain ⟨ad, buf, h'⟩ := hr; exact h'.c1
  rw [hi] at c1
  have HI := Lib.hid hi
  have HSK := Lib.hid hsk
  have HLB := Lib.hid hlb
  have A := At.start hr
  rw [hi] at A
  have HO := Lib.hid ho
  clear hi hsk hlb ho
  go_enter Tryz.func120, Tryz.ntmps120
  go_wp2_with fail
  refine (A.adv 75).mono ?_
  rintro e w1 ⟨rfl, A'⟩
  clear c1; clear A; have A := A'; clear A'
  go_wp2_with fail
  refine (A.says h HSK.out HLB.out (fun e => by simpa using HO.out e)).mono ?_
  rintro e w2 ⟨rfl, A'⟩
  clear A
  go_wp2
  go_end0
  exact A'.to rfl rfl |>.post HI.out (Kept.refl B w)

set_option maxHeartbeats 4000000 in
set_option maxRecDepth 100000 in
theorem genericArg_T (lb : Nat) (sk : Bool) (c : UInt8) (inp k txt : List UInt8) (G : Nat → Prop) (h : Says 96 #[] lb sk (c :: inp) k txt G) (hL : ((c.toNat : Int) == 76) = false) (hK : ((c.toNat : Int) == 75) = false) :
    Says 120 #[] lb sk (c :: inp) k txt G := by
  intro B b r w hr hsk hlb hi ho
  have c1 : w.cell? ⟨b, 1, none⟩ = some (.string (bs r.str)) := by obtain ⟨ad, buf, h'⟩ := hr; exact h'.c1
  rw [hi] at c1
  have HI := Lib.hid hi
  have HSK := Lib.hid hsk
  have HLB := Lib.hid hlb
  have A := At.start hr
  rw [hi] at A
  have HO := Lib.hid ho
  clear hi hsk hlb ho
  go_enter Tryz.func120, Tryz.ntmps120
  go_wp2_with fail
  refine (A.says h HSK.out HLB.out (fun e => by simpa using HO.out e)).mono ?_
  rintro e w2 ⟨rfl, A'⟩
  clear A c1
  go_wp2
  go_end0
  exact A'.to rfl rfl |>.post HI.out (Kept.refl B w)
end Go.Proofs.YtlpbhfmhndhbkaaGreatDoor
