/- The law on references back. -/
import Derived.Test.YtidokamjbglkbaaGreatDoorY33
import Derived.Test.YtidokamjbglkbaaGreatDoorY36
import Derived.Deep.RegionHeld3
namespace Go.Proofs.YtidokamjbglkbaaGreatDoor
open Go.RowKit

set_option maxHeartbeats 40000000 in
set_option maxRecDepth 100000 in
theorem law_again {M : Nat} (t : RT) (hM : M ≤ 2147483647) (cs : Array Value) (B : Nat) (w : World) (ht : Tabs B w) (hB : B ≤ w.heap.size) (hT : TreeAt M B w cs t) :
    Calls Tryz.prog 3 #[.agg cs] w fun e w' => e = .returned (.bool true) ∧ Below w.heap.size w w' := by
  obtain ⟨kd, c, nm, n, fl, ap, mp, cap, rfl, _, _⟩ := hT.inv
  obtain ⟨P, fP, hS, hC, hR⟩ : ∃ P : World → Prop, Firm P ∧ Sta w P (w.alloc (.cells (rv kd c nm n fl (.slice ap mp cap)) tRu)) ∧ (∀ w', P w' → Blk (w.heap.size) (rv kd c nm n fl (.slice ap mp cap)) tRu w') ∧ (∀ w', P w' → TreeAt M w'.heap.size w' (rv kd c nm n fl (.slice ap mp cap)) t) := by
    have s0 : Sta w (fun w => Tre M (rv kd c nm n fl (.slice ap mp cap)) t w) w := Sta.start ht hB ⟨B, hB, hT⟩
    have s1 := s0.alloc (firm_tre _ _ _) (rv kd c nm n fl (.slice ap mp cap)) tRu
    exact ⟨_, (firm_and (firm_tre _ _ _) (firm_blk _ _ _)), s1, fun _ h => by simpa using h.2, fun _ h => h.1.at⟩
  have CL := Lib.hid (fun w' (h : Sta w P w') => (hC w' h.keep).cells)
  have CF : Hid (∀ w', Sta w P w' → (fun w' => w'.cell? ⟨w.heap.size, 0, none⟩ = some (.int .i64 kd) ∧ w'.cell? ⟨w.heap.size, 1, none⟩ = some (.int .u8 c.toNat) ∧ w'.cell? ⟨w.heap.size, 2, none⟩ = some (.string (bs nm)) ∧ w'.cell? ⟨w.heap.size, 3, none⟩ = some (.int .u64 n) ∧ w'.cell? ⟨w.heap.size, 4, none⟩ = some (.bool fl) ∧ w'.cell? ⟨w.heap.size, 5, none⟩ = some (.slice ap mp cap)) w') := Lib.hid (fun w' h => by
    obtain ⟨q0, q1, q2, q3, q4, q5⟩ := CL.out w' h
    exact ⟨q0, q1, q2, q3, q4, q5⟩)
  have S0 := Lib.hid hS
  have HDR := Lib.hid (fun w' (h : Sta w P w') => h.drew fP)
  have HZ := Lib.hid (fun w' (h : Sta w P w') => (fits2_any kd c nm n fl ap mp cap w').mono (R' := fun e w'' => ∃ bl : Bool, e = .returned (.bool bl) ∧ Sta w P w'') fun _ _ ⟨bl, e, b⟩ => ⟨bl, e, h.step fP b⟩)
  have HF := Lib.hid (fun w' (h : Sta w P w') => h.callB fP (fitsType_any t kd c nm n fl (.slice ap mp cap) hM w'.heap.size w' h.tabs (Nat.le_refl _) (hR w' h.keep)))
  have HP := Lib.hid (fun (hf : FitT t) w' (h : Sta w P w') => h.call fP (Q := fun e => e = .returned (.string (bs (pieceOf t)))) (piece_text t (by omega : 0 ≤ 20) hf.rt hf.kd hf.sz kd c nm n fl (.slice ap mp cap) w'.heap.size w' h.tabs (Nat.le_refl _) (hR w' h.keep)))
  have HA := Lib.hid (fun (hf : FitT t) w' (h : Sta w P w') => h.call fP (Q := fun e => e = .returned (.tuple #[.string (bs (tell t)), .bool true])) (argument_any (pieceOf t) (tell t) (by have := hf.len; omega) (by have := hf.tlen; omega) hf.read w'.heap.size w' h.tabs (Nat.le_refl _)))
  have HL := Lib.hid (fun (hf : FitT t) => (⟨hf.len, hf.tlen⟩ : (pieceOf t).length ≤ 330000 ∧ (tell t).length ≤ 360000))
  obtain ⟨x1, hx1⟩ : ∃ x : List UInt8, x = (pieceOf t ++ [66, 51, 95]) := ⟨_, rfl⟩
  have ex1 : bs (pieceOf t) ++ (⟨#[66, 51, 95]⟩ : ByteArray) = bs x1 := by
    rw [hx1, show (⟨#[66, 51, 95]⟩ : ByteArray) = bs [66, 51, 95] from rfl, bs_append] <;> first | rfl | simp
  obtain ⟨x2, hx2⟩ : ∃ x : List UInt8, x = (tell t ++ [44, 32]) := ⟨_, rfl⟩
  have ex2 : bs (tell t) ++ (⟨#[44, 32]⟩ : ByteArray) = bs x2 := by
    rw [hx2, show (⟨#[44, 32]⟩ : ByteArray) = bs [44, 32] from rfl, bs_append] <;> first | rfl | simp
  obtain ⟨x3, hx3⟩ : ∃ x : List UInt8, x = (tell t ++ (44 :: 32 :: tell t)) := ⟨_, rfl⟩
  have ex3 : bs x2 ++ bs (tell t) = bs x3 := by
    rw [hx3, hx2, bs_append] <;> first | rfl | simp
  have HI := Lib.hid (fun (hf : FitT t) w' (h : Sta w P w') => h.call fP (Q := fun e => e = .returned (.bool true)) (argumentIs_any x1 x3 (by rw [hx1]; simp only [List.length_cons, List.length_append, List.length_nil]; have := HL.out hf; omega) (by rw [hx3]; simp only [List.length_cons, List.length_append, List.length_nil]; have := HL.out hf; omega) (by rw [hx1, hx3]; simpa using read_again hf) w'.heap.size w' h.tabs (Nat.le_refl _)))
  have HOV : Hid ((pieceOf t).length ≤ 330000 → (tell t).length ≤ 360000 → ¬ 9223372036854775807 < (pieceOf t).length + 3 ∧ ¬ 9223372036854775807 < (tell t).length + 2 ∧ ¬ 9223372036854775807 < x2.length + (tell t).length) := Lib.hid (fun g0 g0' => by
    have ox1 : ¬ 9223372036854775807 < (pieceOf t).length + 3 := by omega
    have ox2 : ¬ 9223372036854775807 < (tell t).length + 2 := by omega
    have ox3 : ¬ 9223372036854775807 < x2.length + (tell t).length := by rw [hx2]; simp only [List.length_cons, List.length_append, List.length_nil]; omega
    exact ⟨ox1, ox2, ox3⟩)
  clear hS hC hR fP ht hB hT hM hx1 hx2 hx3
  go_enter Tryz.func3, Tryz.ntmps3
  go_wp2_with fail
  refine (HZ.out _ S0.out).mono ?_
  rintro e w1 ⟨bl, rfl, h1⟩
  obtain ⟨q0, q1, q2, q3, q4, q5⟩ := CL.out _ h1
  have S1 := Lib.hid h1
  clear h1
  cases bl with
  | false =>
    go_wp2
    go_ret
    exact ⟨rfl, S1.out.below⟩
  | true =>
    go_wp2_with fail
    refine (HF.out _ S1.out).mono ?_
    rintro e w2 ⟨bl, rfl, hq, h2⟩
    obtain ⟨q0, q1, q2, q3, q4, q5⟩ := CL.out _ h2
    have S2 := Lib.hid h2
    clear h2
    cases bl with
    | false =>
      clear hq
      go_wp2
      go_ret
      exact ⟨rfl, S2.out.below⟩
    | true =>
      have FT := Lib.hid (hq rfl)
      clear hq
      obtain ⟨g0, g0'⟩ := HL.out FT.out
      obtain ⟨ox1, ox2, ox3⟩ := HOV.out g0 g0'
      go_wp2_with fail
      refine ((HP.out FT.out) _ S2.out).mono ?_
      rintro e w3 ⟨rfl, h3⟩
      obtain ⟨q0, q1, q2, q3, q4, q5⟩ := CL.out _ h3
      have S3 := Lib.hid h3
      clear h3
      go_wp2_with fail
      refine ((HA.out FT.out) _ S3.out).mono ?_
      rintro e w4 ⟨rfl, h4⟩
      obtain ⟨q0, q1, q2, q3, q4, q5⟩ := CL.out _ h4
      have S4 := Lib.hid h4
      clear h4
      go_wp2_with fail
      refine ((HP.out FT.out) _ S4.out).mono ?_
      rintro e w5 ⟨rfl, h5⟩
      obtain ⟨q0, q1, q2, q3, q4, q5⟩ := CL.out _ h5
      have S5 := Lib.hid h5
      clear h5
      go_wp2_with fail
      refine ((HI.out FT.out) _ S5.out).mono ?_
      rintro e w6 ⟨rfl, h6⟩
      obtain ⟨q0, q1, q2, q3, q4, q5⟩ := CL.out _ h6
      have S6 := Lib.hid h6
      clear h6
      go_wp2
      go_ret
      exact ⟨rfl, S6.out.below⟩
end Go.Proofs.YtidokamjbglkbaaGreatDoor
