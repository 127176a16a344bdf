/- The law on types of trait objects. -/
import Derived.Test.YtidokamjbglkbaaGreatDoorY32
import Derived.Test.YtidokamjbglkbaaGreatDoorY36
import Derived.Deep.RegionHeld3
namespace Go.Proofs.YtidokamjbglkbaaGreatDoor
open Go.RowKit

set_option maxHeartbeats 40000000 in
set_option maxRecDepth 100000 in
theorem law_object {M : Nat} (p : RT) (q : RT) (hM : M ≤ 2147483647) (cs1 cs2 : Array Value) (B : Nat) (w : World) (ht : Tabs B w) (hB : B ≤ w.heap.size) (hT1 : TreeAt M B w cs1 p) (hT2 : TreeAt M B w cs2 q) :
    Calls Tryz.prog 4 #[.agg cs1, .agg cs2] w fun e w' => e = .returned (.bool true) ∧ Below w.heap.size w w' := by
  obtain ⟨kd1, c1, nm1, n1, fl1, ap1, mp1, cap1, rfl, _, _⟩ := hT1.inv
  obtain ⟨kd2, c2, nm2, n2, fl2, ap2, mp2, cap2, rfl, _, _⟩ := hT2.inv
  obtain ⟨P, fP, hS, hC1, hC2, hR1, hR2⟩ : ∃ P : World → Prop, Firm P ∧ Sta w P ((w.alloc (.cells (rv kd1 c1 nm1 n1 fl1 (.slice ap1 mp1 cap1)) tRu)).alloc (.cells (rv kd2 c2 nm2 n2 fl2 (.slice ap2 mp2 cap2)) tRu)) ∧ (∀ w', P w' → Blk (w.heap.size) (rv kd1 c1 nm1 n1 fl1 (.slice ap1 mp1 cap1)) tRu w') ∧ (∀ w', P w' → Blk (w.heap.size + 1) (rv kd2 c2 nm2 n2 fl2 (.slice ap2 mp2 cap2)) tRu w') ∧ (∀ w', P w' → TreeAt M w'.heap.size w' (rv kd1 c1 nm1 n1 fl1 (.slice ap1 mp1 cap1)) p) ∧ (∀ w', P w' → TreeAt M w'.heap.size w' (rv kd2 c2 nm2 n2 fl2 (.slice ap2 mp2 cap2)) q) := by
    have s0 : Sta w (fun w => Tre M (rv kd1 c1 nm1 n1 fl1 (.slice ap1 mp1 cap1)) p w ∧ Tre M (rv kd2 c2 nm2 n2 fl2 (.slice ap2 mp2 cap2)) q w) w := Sta.start ht hB ⟨⟨B, hB, hT1⟩, ⟨B, hB, hT2⟩⟩
    have s1 := s0.alloc (firm_and (firm_tre _ _ _) (firm_tre _ _ _)) (rv kd1 c1 nm1 n1 fl1 (.slice ap1 mp1 cap1)) tRu
    have s2 := s1.alloc (firm_and (firm_and (firm_tre _ _ _) (firm_tre _ _ _)) (firm_blk _ _ _)) (rv kd2 c2 nm2 n2 fl2 (.slice ap2 mp2 cap2)) tRu
    exact ⟨_, (firm_and (firm_and (firm_and (firm_tre _ _ _) (firm_tre _ _ _)) (firm_blk _ _ _)) (firm_blk _ _ _)), s2, fun _ h => by simpa using h.1.2, fun _ h => by simpa using h.2, fun _ h => h.1.1.1.at, fun _ h => h.1.1.2.at⟩
  have CL := Lib.hid (fun w' (h : Sta w P w') => (⟨(hC1 w' h.keep).cells, (hC2 w' h.keep).cells⟩ : _ ∧ _))
  have CF : Hid (∀ w', Sta w P w' → (fun w' => w'.cell? ⟨w.heap.size, 0, none⟩ = some (.int .i64 kd1) ∧ w'.cell? ⟨w.heap.size, 1, none⟩ = some (.int .u8 c1.toNat) ∧ w'.cell? ⟨w.heap.size, 2, none⟩ = some (.string (bs nm1)) ∧ w'.cell? ⟨w.heap.size, 3, none⟩ = some (.int .u64 n1) ∧ w'.cell? ⟨w.heap.size, 4, none⟩ = some (.bool fl1) ∧ w'.cell? ⟨w.heap.size, 5, none⟩ = some (.slice ap1 mp1 cap1) ∧ w'.cell? ⟨w.heap.size + 1, 0, none⟩ = some (.int .i64 kd2) ∧ w'.cell? ⟨w.heap.size + 1, 1, none⟩ = some (.int .u8 c2.toNat) ∧ w'.cell? ⟨w.heap.size + 1, 2, none⟩ = some (.string (bs nm2)) ∧ w'.cell? ⟨w.heap.size + 1, 3, none⟩ = some (.int .u64 n2) ∧ w'.cell? ⟨w.heap.size + 1, 4, none⟩ = some (.bool fl2) ∧ w'.cell? ⟨w.heap.size + 1, 5, none⟩ = some (.slice ap2 mp2 cap2)) w') := Lib.hid (fun w' h => by
    obtain ⟨⟨q10, q11, q12, q13, q14, q15⟩, q20, q21, q22, q23, q24, q25⟩ := CL.out w' h
    exact ⟨q10, q11, q12, q13, q14, q15, q20, q21, q22, q23, q24, q25⟩)
  have S0 := Lib.hid hS
  have HDR := Lib.hid (fun w' (h : Sta w P w') => h.drew fP)
  have HZ1 := Lib.hid (fun w' (h : Sta w P w') => (fits2_any kd1 c1 nm1 n1 fl1 ap1 mp1 cap1 w').mono (R' := fun e w'' => ∃ bl : Bool, e = .returned (.bool bl) ∧ Sta w P w'') fun _ _ ⟨bl, e, b⟩ => ⟨bl, e, h.step fP b⟩)
  have HF1 := Lib.hid (fun w' (h : Sta w P w') => h.callB fP (rustFits_any p kd1 c1 nm1 n1 fl1 (.slice ap1 mp1 cap1) hM w'.heap.size w' h.tabs (Nat.le_refl _) (hR1 w' h.keep)))
  have HP1 := Lib.hid (fun (hf : FitT p) w' (h : Sta w P w') => h.call fP (Q := fun e => e = .returned (.string (bs (pieceOf p)))) (piece_text p (by omega : 0 ≤ 20) hf.rt hf.kd hf.sz kd1 c1 nm1 n1 fl1 (.slice ap1 mp1 cap1) w'.heap.size w' h.tabs (Nat.le_refl _) (hR1 w' h.keep)))
  have HA1 := Lib.hid (fun (hf : FitT p) w' (h : Sta w P w') => h.call fP (Q := fun e => e = .returned (.tuple #[.string (bs (tell p)), .bool true])) (argument_any (pieceOf p) (tell p) (by have := hf.len; omega) (by have := hf.tlen; omega) hf.read w'.heap.size w' h.tabs (Nat.le_refl _)))
  have HL1 := Lib.hid (fun (hf : FitT p) => (⟨hf.len, hf.tlen⟩ : (pieceOf p).length ≤ 330000 ∧ (tell p).length ≤ 360000))
  have HZ2 := Lib.hid (fun w' (h : Sta w P w') => (fits2_any kd2 c2 nm2 n2 fl2 ap2 mp2 cap2 w').mono (R' := fun e w'' => ∃ bl : Bool, e = .returned (.bool bl) ∧ Sta w P w'') fun _ _ ⟨bl, e, b⟩ => ⟨bl, e, h.step fP b⟩)
  have HF2 := Lib.hid (fun w' (h : Sta w P w') => h.callB fP (rustFits_any q kd2 c2 nm2 n2 fl2 (.slice ap2 mp2 cap2) hM w'.heap.size w' h.tabs (Nat.le_refl _) (hR2 w' h.keep)))
  have HP2 := Lib.hid (fun (hf : FitT q) w' (h : Sta w P w') => h.call fP (Q := fun e => e = .returned (.string (bs (pieceOf q)))) (piece_text q (by omega : 0 ≤ 20) hf.rt hf.kd hf.sz kd2 c2 nm2 n2 fl2 (.slice ap2 mp2 cap2) w'.heap.size w' h.tabs (Nat.le_refl _) (hR2 w' h.keep)))
  have HA2 := Lib.hid (fun (hf : FitT q) w' (h : Sta w P w') => h.call fP (Q := fun e => e = .returned (.tuple #[.string (bs (tell q)), .bool true])) (argument_any (pieceOf q) (tell q) (by have := hf.len; omega) (by have := hf.tlen; omega) hf.read w'.heap.size w' h.tabs (Nat.le_refl _)))
  have HL2 := Lib.hid (fun (hf : FitT q) => (⟨hf.len, hf.tlen⟩ : (pieceOf q).length ≤ 330000 ∧ (tell q).length ≤ 360000))
  obtain ⟨x1, hx1⟩ : ∃ x : List UInt8, x = (68 :: pieceOf p) := ⟨_, rfl⟩
  have ex1 : (⟨#[68]⟩ : ByteArray) ++ bs (pieceOf p) = bs x1 := by
    rw [hx1, show (⟨#[68]⟩ : ByteArray) = bs [68] from rfl, bs_append] <;> first | rfl | simp
  obtain ⟨x2, hx2⟩ : ∃ x : List UInt8, x = (68 :: (pieceOf p ++ [69, 76, 95])) := ⟨_, rfl⟩
  have ex2 : bs x1 ++ (⟨#[69, 76, 95]⟩ : ByteArray) = bs x2 := by
    rw [hx2, hx1, show (⟨#[69, 76, 95]⟩ : ByteArray) = bs [69, 76, 95] from rfl, bs_append] <;> first | rfl | simp
  obtain ⟨x3, hx3⟩ : ∃ x : List UInt8, x = (68 :: (pieceOf p ++ pieceOf q)) := ⟨_, rfl⟩
  have ex3 : bs x1 ++ bs (pieceOf q) = bs x3 := by
    rw [hx3, hx1, bs_append] <;> first | rfl | simp
  obtain ⟨x4, hx4⟩ : ∃ x : List UInt8, x = (68 :: (pieceOf p ++ (pieceOf q ++ [69, 76, 95]))) := ⟨_, rfl⟩
  have ex4 : bs x3 ++ (⟨#[69, 76, 95]⟩ : ByteArray) = bs x4 := by
    rw [hx4, hx3, show (⟨#[69, 76, 95]⟩ : ByteArray) = bs [69, 76, 95] from rfl, bs_append] <;> first | rfl | simp
  obtain ⟨x5, hx5⟩ : ∃ x : List UInt8, x = (100 :: 121 :: 110 :: 32 :: tell p) := ⟨_, rfl⟩
  have ex5 : (⟨#[100, 121, 110, 32]⟩ : ByteArray) ++ bs (tell p) = bs x5 := by
    rw [hx5, show (⟨#[100, 121, 110, 32]⟩ : ByteArray) = bs [100, 121, 110, 32] from rfl, bs_append] <;> first | rfl | simp
  obtain ⟨x6, hx6⟩ : ∃ x : List UInt8, x = (100 :: 121 :: 110 :: 32 :: (tell p ++ [32, 43, 32])) := ⟨_, rfl⟩
  have ex6 : bs x5 ++ (⟨#[32, 43, 32]⟩ : ByteArray) = bs x6 := by
    rw [hx6, hx5, show (⟨#[32, 43, 32]⟩ : ByteArray) = bs [32, 43, 32] from rfl, bs_append] <;> first | rfl | simp
  obtain ⟨x7, hx7⟩ : ∃ x : List UInt8, x = (100 :: 121 :: 110 :: 32 :: (tell p ++ (32 :: 43 :: 32 :: tell q))) := ⟨_, rfl⟩
  have ex7 : bs x6 ++ bs (tell q) = bs x7 := by
    rw [hx7, hx6, bs_append] <;> first | rfl | simp
  have HI1 := Lib.hid (fun (hp : FitP p) (hq : FitP q) w' (h : Sta w P w') => h.call fP (Q := fun e => e = .returned (.bool true)) (argumentIs_any x2 x5 (by rw [hx2]; simp only [List.length_cons, List.length_append, List.length_nil]; have := HL1.out hp.fit; have := HL2.out hq.fit; omega) (by rw [hx5]; simp only [List.length_cons, List.length_append, List.length_nil]; have := HL1.out hp.fit; have := HL2.out hq.fit; omega) (by rw [hx2, hx5]; exact read_object1 hp) w'.heap.size w' h.tabs (Nat.le_refl _)))
  have HI2 := Lib.hid (fun (hp : FitP p) (hq : FitP q) w' (h : Sta w P w') => h.call fP (Q := fun e => e = .returned (.bool true)) (argumentIs_any x4 x7 (by rw [hx4]; simp only [List.length_cons, List.length_append, List.length_nil]; have := HL1.out hp.fit; have := HL2.out hq.fit; omega) (by rw [hx7]; simp only [List.length_cons, List.length_append, List.length_nil]; have := HL1.out hp.fit; have := HL2.out hq.fit; omega) (by rw [hx4, hx7]; exact read_object2 hp hq) w'.heap.size w' h.tabs (Nat.le_refl _)))
  have HOV : Hid ((pieceOf p).length ≤ 330000 → (tell p).length ≤ 360000 → (pieceOf q).length ≤ 330000 → (tell q).length ≤ 360000 → ¬ 9223372036854775807 < 1 + (pieceOf p).length ∧ ¬ 9223372036854775807 < x1.length + 3 ∧ ¬ 9223372036854775807 < x1.length + (pieceOf q).length ∧ ¬ 9223372036854775807 < x3.length + 3 ∧ ¬ 9223372036854775807 < 4 + (tell p).length ∧ ¬ 9223372036854775807 < x5.length + 3 ∧ ¬ 9223372036854775807 < x6.length + (tell q).length) := Lib.hid (fun g1 g1' g2 g2' => by
    have ox1 : ¬ 9223372036854775807 < 1 + (pieceOf p).length := by omega
    have ox2 : ¬ 9223372036854775807 < x1.length + 3 := by rw [hx1]; simp only [List.length_cons, List.length_append, List.length_nil]; omega
    have ox3 : ¬ 9223372036854775807 < x1.length + (pieceOf q).length := by rw [hx1]; simp only [List.length_cons, List.length_append, List.length_nil]; omega
    have ox4 : ¬ 9223372036854775807 < x3.length + 3 := by rw [hx3]; simp only [List.length_cons, List.length_append, List.length_nil]; omega
    have ox5 : ¬ 9223372036854775807 < 4 + (tell p).length := by omega
    have ox6 : ¬ 9223372036854775807 < x5.length + 3 := by rw [hx5]; simp only [List.length_cons, List.length_append, List.length_nil]; omega
    have ox7 : ¬ 9223372036854775807 < x6.length + (tell q).length := by rw [hx6]; simp only [List.length_cons, List.length_append, List.length_nil]; omega
    exact ⟨ox1, ox2, ox3, ox4, ox5, ox6, ox7⟩)
  clear hS hC1 hC2 hR1 hR2 fP ht hB hT1 hT2 hM hx1 hx2 hx3 hx4 hx5 hx6 hx7
  go_enter Tryz.func4, Tryz.ntmps4
  go_wp2_with fail
  refine (HZ1.out _ S0.out).mono ?_
  rintro e w1 ⟨bl, rfl, h1⟩
  obtain ⟨⟨q10, q11, q12, q13, q14, q15⟩, q20, q21, q22, q23, q24, q25⟩ := CL.out _ h1
  have S1 := Lib.hid h1
  clear h1
  cases bl with
  | false =>
    go_wp2
    go_ret
    exact ⟨rfl, S1.out.below⟩
  | true =>
    go_wp2_with fail
    refine (HZ2.out _ S1.out).mono ?_
    rintro e w2 ⟨bl, rfl, h2⟩
    obtain ⟨⟨q10, q11, q12, q13, q14, q15⟩, q20, q21, q22, q23, q24, q25⟩ := CL.out _ h2
    have S2 := Lib.hid h2
    clear h2
    cases bl with
    | false =>
      go_wp2
      go_ret
      exact ⟨rfl, S2.out.below⟩
    | true =>
      go_wp2_with fail
      refine (HF1.out _ S2.out).mono ?_
      rintro e w3 ⟨bl, rfl, hq, h3⟩
      obtain ⟨⟨q10, q11, q12, q13, q14, q15⟩, q20, q21, q22, q23, q24, q25⟩ := CL.out _ h3
      have S3 := Lib.hid h3
      clear h3
      cases bl with
      | false =>
        clear hq
        go_wp2
        go_ret
        exact ⟨rfl, S3.out.below⟩
      | true =>
        have FP := Lib.hid (hq rfl)
        clear hq
        go_wp2_with fail
        refine (HF2.out _ S3.out).mono ?_
        rintro e w4 ⟨bl, rfl, hq, h4⟩
        obtain ⟨⟨q10, q11, q12, q13, q14, q15⟩, q20, q21, q22, q23, q24, q25⟩ := CL.out _ h4
        have S4 := Lib.hid h4
        clear h4
        cases bl with
        | false =>
          clear hq
          go_wp2
          go_ret
          exact ⟨rfl, S4.out.below⟩
        | true =>
          have FQ := Lib.hid (hq rfl)
          clear hq
          obtain ⟨g1, g1'⟩ := HL1.out FP.out.fit
          obtain ⟨g2, g2'⟩ := HL2.out FQ.out.fit
          obtain ⟨ox1, ox2, ox3, ox4, ox5, ox6, ox7⟩ := HOV.out g1 g1' g2 g2'
          go_wp2_with fail
          refine ((HP1.out FP.out.fit) _ S4.out).mono ?_
          rintro e w5 ⟨rfl, h5⟩
          obtain ⟨⟨q10, q11, q12, q13, q14, q15⟩, q20, q21, q22, q23, q24, q25⟩ := CL.out _ h5
          have S5 := Lib.hid h5
          clear h5
          go_wp2_with fail
          refine ((HA1.out FP.out.fit) _ S5.out).mono ?_
          rintro e w6 ⟨rfl, h6⟩
          obtain ⟨⟨q10, q11, q12, q13, q14, q15⟩, q20, q21, q22, q23, q24, q25⟩ := CL.out _ h6
          have S6 := Lib.hid h6
          clear h6
          go_wp2_with fail
          refine ((HP2.out FQ.out.fit) _ S6.out).mono ?_
          rintro e w7 ⟨rfl, h7⟩
          obtain ⟨⟨q10, q11, q12, q13, q14, q15⟩, q20, q21, q22, q23, q24, q25⟩ := CL.out _ h7
          have S7 := Lib.hid h7
          clear h7
          go_wp2_with fail
          refine ((HA2.out FQ.out.fit) _ S7.out).mono ?_
          rintro e w8 ⟨rfl, h8⟩
          obtain ⟨⟨q10, q11, q12, q13, q14, q15⟩, q20, q21, q22, q23, q24, q25⟩ := CL.out _ h8
          have S8 := Lib.hid h8
          clear h8
          have UU := S8.out
          have HQ0 := Lib.hid (HP1.out FP.out.fit)
          have HQ1 := Lib.hid (HP2.out FQ.out.fit)
          have HQ2 := Lib.hid (HI1.out FP.out FQ.out)
          have HQ3 := Lib.hid (HI2.out FP.out FQ.out)
          clear HZ1 HZ2 HF1 HF2 HP1 HP2 HA1 HA2 HL1 HL2 HOV HI1 HI2 FP FQ g1 g1' g2 g2' CL q10 q11 q12 q13 q14 q15 q20 q21 q22 q23 q24 q25 S0 S1 S2 S3 S4 S5 S6 S7 S8
          go_wp2_with fail
          go_region_held3 (fun w' => w'.cell? ⟨w.heap.size, 0, none⟩ = some (.int .i64 kd1) ∧ w'.cell? ⟨w.heap.size, 1, none⟩ = some (.int .u8 c1.toNat) ∧ w'.cell? ⟨w.heap.size, 2, none⟩ = some (.string (bs nm1)) ∧ w'.cell? ⟨w.heap.size, 3, none⟩ = some (.int .u64 n1) ∧ w'.cell? ⟨w.heap.size, 4, none⟩ = some (.bool fl1) ∧ w'.cell? ⟨w.heap.size, 5, none⟩ = some (.slice ap1 mp1 cap1) ∧ w'.cell? ⟨w.heap.size + 1, 0, none⟩ = some (.int .i64 kd2) ∧ w'.cell? ⟨w.heap.size + 1, 1, none⟩ = some (.int .u8 c2.toNat) ∧ w'.cell? ⟨w.heap.size + 1, 2, none⟩ = some (.string (bs nm2)) ∧ w'.cell? ⟨w.heap.size + 1, 3, none⟩ = some (.int .u64 n2) ∧ w'.cell? ⟨w.heap.size + 1, 4, none⟩ = some (.bool fl2) ∧ w'.cell? ⟨w.heap.size + 1, 5, none⟩ = some (.slice ap2 mp2 cap2)) (first | exact CF.out _ (by assumption) | exact CF.out _ (HDR.out _ (by assumption)))
            (first
              | (go_at_call_of 12 (bs nm1); refine (HQ0.out _ ?_).mono ?_; (first | assumption | exact HDR.out _ (by assumption)); rintro e w9 ⟨rfl, UU⟩)
              | (go_at_call_of 12 (bs nm2); refine (HQ1.out _ ?_).mono ?_; (first | assumption | exact HDR.out _ (by assumption)); rintro e w9 ⟨rfl, UU⟩)
              | (go_at_call_of 13 (bs x2); refine (HQ2.out _ ?_).mono ?_; (first | assumption | exact HDR.out _ (by assumption)); rintro e w9 ⟨rfl, UU⟩)
              | (go_at_call_of 13 (bs x4); refine (HQ3.out _ ?_).mono ?_; (first | assumption | exact HDR.out _ (by assumption)); rintro e w9 ⟨rfl, UU⟩))
          all_goals go_wp2
          all_goals go_ret
          all_goals exact ⟨rfl, Sta.below (by assumption)⟩
end Go.Proofs.YtidokamjbglkbaaGreatDoor
