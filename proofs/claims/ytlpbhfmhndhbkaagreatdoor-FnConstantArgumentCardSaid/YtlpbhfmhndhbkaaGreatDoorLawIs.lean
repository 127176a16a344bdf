/- laws: rustOf, rustArgumentIs. -/
import Derived.Test.YtlpbhfmhndhbkaaGreatDoorReadC
import Derived.Lib.SlicesS
namespace Go.Proofs.YtlpbhfmhndhbkaaGreatDoor
open Go.RowKit

set_option maxHeartbeats 1000000 in
set_option maxRecDepth 100000 in
theorem rustOf_any (p : List UInt8) (hl : p.length ≤ 10000000) (w : World) : Calls Tryz.prog 13 #[.string (bs p)] w fun e w' => e = .returned (.string (bs (nameOf p))) ∧ w' = w := by
  have e1 : (⟨#[95, 82, 73, 67, 49, 109]⟩ : ByteArray) ++ bs p = bs ([95, 82, 73, 67, 49, 109] ++ p) := by rw [← bs_append]; rfl
  have e2 : bs (95 :: 82 :: 73 :: 67 :: 49 :: 109 :: p) ++ (⟨#[69]⟩ : ByteArray) = bs (nameOf p) := by
    show bs ([95, 82, 73, 67, 49, 109] ++ p) ++ (⟨#[69]⟩ : ByteArray) = _
    rw [show (⟨#[69]⟩ : ByteArray) = bs [69] from rfl, bs_append]; rfl
  have h1 : ¬ 9223372036854775807 < 6 + p.length := by omega
  have h2 : ¬ 9223372036854775807 < p.length + 6 + 1 := by omega
  go_enter Tryz.func13, Tryz.ntmps13
  go_wp2
  go_ret
  exact ⟨congrArg (fun b => Ending.returned (.string b)) e2, rfl⟩

set_option maxHeartbeats 2000000 in
set_option maxRecDepth 100000 in
/-- An argument that is told as a text is told as it. -/
theorem argumentIs_any (p txt : List UInt8) (hl : p.length ≤ 10000000) (hl2 : txt.length ≤ 100000000) (h : ReadAs (nameOf p) (toldOf txt)) (B : Nat) (w : World) (hT : Tabs B w) (hB : B ≤ w.heap.size) :
    Calls Tryz.prog 7 #[.string (bs p), .string (bs txt)] w fun e w' => e = .returned (.bool true) ∧ Below w.heap.size w w' := by
  have HO := Lib.hid (fun w => rustOf_any p hl w)
  have HD := Lib.hid (told_any _ _ h B w hT hB)
  have e1 : (⟨#[109, 58, 58, 60]⟩ : ByteArray) ++ bs txt = bs (109 :: 58 :: 58 :: 60 :: txt) := by rw [show (⟨#[109, 58, 58, 60]⟩ : ByteArray) = bs [109, 58, 58, 60] from rfl, bs_append]; rfl
  have e2 : bs (109 :: 58 :: 58 :: 60 :: txt) ++ (⟨#[62]⟩ : ByteArray) = bs (toldOf txt) := by
    rw [show (⟨#[62]⟩ : ByteArray) = bs [62] from rfl, bs_append]; rfl
  have h1 : ¬ 9223372036854775807 < 4 + txt.length := by omega
  clear h hT hB
  go_enter Tryz.func7, Tryz.ntmps7
  go_wp2_with (first
    | (go_at_call 13; refine (HO.out _).mono ?_; rintro e w' ⟨rfl, rfl⟩)
    | (go_at_call 12; refine HD.out.mono ?_))
  rintro e w1 ⟨rfl, b1⟩
  go_wp2
  go_ret
  refine ⟨?_, b1⟩
  first | rfl | simp
end Go.Proofs.YtlpbhfmhndhbkaaGreatDoor
