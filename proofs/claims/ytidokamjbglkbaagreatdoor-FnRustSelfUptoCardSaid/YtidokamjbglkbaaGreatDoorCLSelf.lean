/- The law on references that are refused. -/
import Derived.Test.YtidokamjbglkbaaGreatDoorY35
import Derived.Test.YtidokamjbglkbaaGreatDoorY36
import Derived.Test.YtidokamjbglkbaaGreatDoorY23
import Derived.Deep.RegionHeld3
namespace Go.Proofs.YtidokamjbglkbaaGreatDoor
open Go.RowKit

set_option maxHeartbeats 1000000 in
set_option maxRecDepth 100000 in
theorem reference_text (n : Nat) (hn : n ≤ 4611686018427387904) (w : World) : Calls Tryz.prog 16 #[.int .u64 n] w fun e w' => e = .returned (.string (bs (66 :: b62 n))) ∧ Below w.heap.size w w' := by
  have HB := Lib.hid (base62_text n hn w)
  have hl := b62_len n hn
  have e1 : (⟨#[66]⟩ : ByteArray) ++ bs (b62 n) = bs (66 :: b62 n) := bs_cons _ _
  have h1 : ¬ 9223372036854775807 < 1 + (b62 n).length := by omega
  go_enter Tryz.func16, Tryz.ntmps16
  go_wp2_with (go_at_call 25; refine HB.out.mono ?_; rintro e w1 ⟨rfl, q, rfl⟩)
  go_ret
  exact ⟨congrArg (fun b => Ending.returned (.string b)) e1, (⟨rfl, rfl, rfl, Nat.le_refl _, fun _ _ => rfl⟩ : Below w.heap.size w (w.drewN q))⟩

set_option maxHeartbeats 40000000 in
set_option maxRecDepth 100000 in
theorem law_self {M : Nat} (t : RT) (hM : M ≤ 2147483647) (place : Nat) (hpl : place < 18446744073709551616) (cs : Array Value) (B : Nat) (w : World) (ht : Tabs B w) (hB : B ≤ w.heap.size) (hE : ErrAt w) (hT : TreeAt M B w cs t) :
    Calls Tryz.prog 6 #[.agg cs, .int .u64 place] w fun e w' => e = .returned (.bool true) ∧ Below w.heap.size w w' := by
  obtain ⟨kd, c, nm, n, fl, ap, mp, cap, rfl, _, _⟩ := hT.inv
  obtain ⟨P, fP, hS, hC, hR⟩ : ∃ P : World → Prop, Firm P ∧ Sta w P (w.alloc (.cells (rv kd c nm n fl (.slice ap mp cap)) tRu)) ∧ (∀ w', P w' → Blk (w.heap.size) (rv kd c nm n fl (.slice ap mp cap)) tRu w') ∧ (∀ w', P w' → TreeAt M w'.heap.size w' (rv kd c nm n fl (.slice ap mp cap)) t) := by
    have s0 : Sta w (fun w => Tre M (rv kd c nm n fl (.slice ap mp cap)) t w) w := Sta.start ht hB ⟨B, hB, hT⟩
    have s1 := s0.alloc (firm_tre _ _ _) (rv kd c nm n fl (.slice ap mp cap)) tRu
    exact ⟨_, (firm_and (firm_tre _ _ _) (firm_blk _ _ _)), s1, fun _ h => by simpa using h.2, fun _ h => h.1.at⟩
  have CL := Lib.hid (fun w' (h : Sta w P w') => (hC w' h.keep).cells)
  have CF : Hid (∀ w', Sta w P w' → (fun w' => w'.cell? ⟨w.heap.size, 0, none⟩ = some (.int .i64 kd) ∧ w'.cell? ⟨w.heap.size, 1, none⟩ = some (.int .u8 c.toNat) ∧ w'.cell? ⟨w.heap.size, 2, none⟩ = some (.string (bs nm)) ∧ w'.cell? ⟨w.heap.size, 3, none⟩ = some (.int .u64 n) ∧ w'.cell? ⟨w.heap.size, 4, none⟩ = some (.bool fl) ∧ w'.cell? ⟨w.heap.size, 5, none⟩ = some (.slice ap mp cap)) w') := Lib.hid (fun w' h => by
    obtain ⟨q0, q1, q2, q3, q4, q5⟩ := CL.out w' h
    exact ⟨q0, q1, q2, q3, q4, q5⟩)
  have S0 := Lib.hid hS
  have HDR := Lib.hid (fun w' (h : Sta w P w') => h.drew fP)
  have HZ := Lib.hid (fun w' (h : Sta w P w') => (fits2_any kd c nm n fl ap mp cap w').mono (R' := fun e w'' => ∃ bl : Bool, e = .returned (.bool bl) ∧ Sta w P w'') fun _ _ ⟨bl, e, b⟩ => ⟨bl, e, h.step fP b⟩)
  have HF := Lib.hid (fun w' (h : Sta w P w') => h.callB fP (fitsType_any t kd c nm n fl (.slice ap mp cap) hM w'.heap.size w' h.tabs (Nat.le_refl _) (hR w' h.keep)))
  have HP := Lib.hid (fun (hf : FitT t) w' (h : Sta w P w') => h.call fP (Q := fun e => e = .returned (.string (bs (pieceOf t)))) (piece_text t (by omega : 0 ≤ 20) hf.rt hf.kd hf.sz kd c nm n fl (.slice ap mp cap) w'.heap.size w' h.tabs (Nat.le_refl _) (hR w' h.keep)))
  have HA := Lib.hid (fun (hf : FitT t) w' (h : Sta w P w') => h.call fP (Q := fun e => e = .returned (.tuple #[.string (bs (tell t)), .bool true])) (argument_any (pieceOf t) (tell t) (by have := hf.len; omega) (by have := hf.tlen; omega) hf.read w'.heap.size w' h.tabs (Nat.le_refl _)))
  have HL := Lib.hid (fun (hf : FitT t) => (⟨hf.len, hf.tlen⟩ : (pieceOf t).length ≤ 330000 ∧ (tell t).length ≤ 360000))
  have HB1 := Lib.hid (fun (n : Nat) (z : Int) (hz : z = (n : Int)) (hn : n ≤ 1000000) w' (h : Sta w P w') => h.call fP (f := 16) (args := #[.int .u64 z]) (Q := fun e => e = .returned (.string (bs (66 :: b62 n)))) (hz ▸ reference_text n (by omega) w'))
  have HO1 := Lib.hid (fun (p : List UInt8) (hp : p.length ≤ 10000000) w' (h : Sta w P w') => h.call fP (Q := fun e => e = .returned (.string (bs (nameOf p)))) ((rustOf_any p hp w').mono (R' := fun e w'' => e = .returned (.string (bs (nameOf p))) ∧ Below w'.heap.size w' w'') fun _ _ ⟨e, hw⟩ => ⟨e, hw ▸ Below.refl _ _⟩))
  have HX1 := Lib.hid (fun (hf : FitT t) (n : Nat) (hn : 4 + (pieceOf t).length ≤ n) (hn2 : n ≤ 1000000) w' (h : Sta w P w') => h.call fP (Q := fun e => e = .returned (.bool true)) (refused_any (nameOf (pieceOf t ++ (66 :: b62 n))) (by have := self_behind hf n hn hn2; simpa [nameOf] using this) w'.heap.size w' h.tabs (Nat.le_refl _) (hE.step h.below)))
  have HX2 := Lib.hid (fun (hf : FitT t) w' (h : Sta w P w') => h.call fP (Q := fun e => e = .returned (.bool true)) (refused_any (nameOf (pieceOf t ++ [66, 95])) (by have := self_begin hf; simpa [nameOf] using this) w'.heap.size w' h.tabs (Nat.le_refl _) (hE.step h.below)))
  have e0 : b62 0 = [95] := by decide +kernel
  clear hS hC hR fP ht hB hT hM hE
  go_enter Tryz.func6, Tryz.ntmps6
  go_wp2_with fail
  refine (HZ.out _ S0.out).mono ?_
  rintro e w1 ⟨bl, rfl, h1⟩
  obtain ⟨q0, q1, q2, q3, q4, q5⟩ := CL.out _ h1
  have S1 := Lib.hid h1
  clear h1
  cases bl with
  | false =>
    go_wp2
    go_ret
    exact ⟨rfl, S1.out.below⟩
  | true =>
    go_wp2_with fail
    refine (HF.out _ S1.out).mono ?_
    rintro e w2 ⟨bl, rfl, hq, h2⟩
    obtain ⟨q0, q1, q2, q3, q4, q5⟩ := CL.out _ h2
    have S2 := Lib.hid h2
    clear h2
    cases bl with
    | false =>
      clear hq
      go_wp2
      go_ret
      exact ⟨rfl, S2.out.below⟩
    | true =>
      have FT := Lib.hid (hq rfl)
      clear hq
      have hlen := (HL.out FT.out).1
      by_cases hp : place ≤ 1000
      · have hd : decide ((1000 : Int) < (place : Int)) = false := by simp; omega
        have q1 : IntKind.i64.wrap (4 + ((pieceOf t).length : Int)) = 4 + ((pieceOf t).length : Int) := IntWalk.i64_in _ (by omega)
        have q2 : IntKind.u64.wrap (4 + ((pieceOf t).length : Int)) = 4 + ((pieceOf t).length : Int) := IntWalk.u64_in _ (by omega)
        have q3 : IntKind.u64.wrap (4 + ((pieceOf t).length : Int) + (place : Int)) = 4 + ((pieceOf t).length : Int) + (place : Int) := IntWalk.u64_in _ (by omega)
        obtain ⟨n1, hn1⟩ : ∃ n : Nat, n = 4 + (pieceOf t).length + place := ⟨_, rfl⟩
        have hb1 := b62_len n1 (by omega)
        obtain ⟨x1, hx1⟩ : ∃ x : List UInt8, x = pieceOf t ++ (66 :: b62 n1) := ⟨_, rfl⟩
        obtain ⟨x2, hx2⟩ : ∃ x : List UInt8, x = pieceOf t ++ [66, 95] := ⟨_, rfl⟩
        obtain ⟨r1, hr1⟩ : ∃ x : List UInt8, x = 66 :: b62 n1 := ⟨_, rfl⟩
        obtain ⟨r2, hr2⟩ : ∃ x : List UInt8, x = [66, 95] := ⟨_, rfl⟩
        have ex1 : bs (pieceOf t) ++ bs r1 = bs x1 := by rw [hr1, hx1, bs_append]
        have ex2 : bs (pieceOf t) ++ bs r2 = bs x2 := by rw [hr2, hx2, bs_append]
        have o1 : ¬ 9223372036854775807 < (pieceOf t).length + r1.length := by rw [hr1]; simp only [List.length_cons]; omega
        have o2 : ¬ 9223372036854775807 < (pieceOf t).length + r2.length := by rw [hr2]; simp only [List.length_cons, List.length_nil]; omega
        have HY1 := Lib.hid (fun (z : Int) (hz : z = 4 + ((pieceOf t).length : Int) + (place : Int)) => hr1 ▸ HB1.out n1 z (by omega) (by omega))
        have HY2 := Lib.hid (by have := HB1.out 0 0 rfl (by omega); rw [e0, ← hr2] at this; exact this)
        have HY3 := Lib.hid (HO1.out x1 (by rw [hx1]; simp only [List.length_append, List.length_cons]; omega))
        have HY4 := Lib.hid (HO1.out x2 (by rw [hx2]; simp only [List.length_append, List.length_cons, List.length_nil]; omega))
        have HY5 := Lib.hid (hx1 ▸ HX1.out FT.out n1 (by omega) (by omega))
        have HY6 := Lib.hid (hx2 ▸ HX2.out FT.out)
        obtain ⟨m1, hm1⟩ : ∃ x : List UInt8, x = nameOf x1 := ⟨_, rfl⟩
        obtain ⟨m2, hm2⟩ : ∃ x : List UInt8, x = nameOf x2 := ⟨_, rfl⟩
        rw [← hm1] at HY3 HY5
        rw [← hm2] at HY4 HY6
        have HYP := Lib.hid (HP.out FT.out)
        clear hx1 hx2 hr1 hr2 hm1 hm2 hn1 hb1 HB1 HO1 HX1 HX2 HP HA HL HZ HF FT e0
        go_wp2_with fail
        refine (HYP.out _ S2.out).mono ?_
        rintro e w3 ⟨rfl, h3⟩
        obtain ⟨q0, q1, q2, q3, q4, q5⟩ := CL.out _ h3
        have S3 := Lib.hid h3
        clear h3
        go_wp2_with fail
        refine ((HY1.out _ (by omega)) _ S3.out).mono ?_
        rintro e w4 ⟨rfl, h4⟩
        obtain ⟨q0, q1, q2, q3, q4, q5⟩ := CL.out _ h4
        have S4 := Lib.hid h4
        clear h4
        go_wp2_with fail
        refine (HY3.out _ S4.out).mono ?_
        rintro e w5 ⟨rfl, h5⟩
        obtain ⟨q0, q1, q2, q3, q4, q5⟩ := CL.out _ h5
        have S5 := Lib.hid h5
        clear h5
        go_wp2_with fail
        refine (HY5.out _ S5.out).mono ?_
        rintro e w6 ⟨rfl, h6⟩
        obtain ⟨q0, q1, q2, q3, q4, q5⟩ := CL.out _ h6
        have S6 := Lib.hid h6
        clear h6
        go_wp2_with fail
        refine (HY2.out _ S6.out).mono ?_
        rintro e w7 ⟨rfl, h7⟩
        obtain ⟨q0, q1, q2, q3, q4, q5⟩ := CL.out _ h7
        have S7 := Lib.hid h7
        clear h7
        go_wp2_with fail
        refine (HY4.out _ S7.out).mono ?_
        rintro e w8 ⟨rfl, h8⟩
        obtain ⟨q0, q1, q2, q3, q4, q5⟩ := CL.out _ h8
        have S8 := Lib.hid h8
        clear h8
        go_wp2_with fail
        refine (HY6.out _ S8.out).mono ?_
        rintro e w9 ⟨rfl, h9⟩
        obtain ⟨q0, q1, q2, q3, q4, q5⟩ := CL.out _ h9
        have S9 := Lib.hid h9
        clear h9
        go_wp2
        go_ret
        exact ⟨rfl, S9.out.below⟩
      · have hd : decide ((1000 : Int) < (place : Int)) = true := by simp; omega
        go_wp2
        go_ret
        exact ⟨rfl, S2.out.below⟩
end Go.Proofs.YtidokamjbglkbaaGreatDoor
