/- The law on closures in a path. -/
import Derived.Test.YtaeiclgdhchneaaGreatDoorY31
import Derived.Test.YtaeiclgdhchneaaGreatDoorY32
import Derived.Test.YtaeiclgdhchneaaGreatDoorY21
import Derived.Test.YtaeiclgdhchneaaGreatDoorY10
import Derived.Test.YtaeiclgdhchneaaGreatDoorY09
import Derived.Test.YtaeiclgdhchneaaGreatDoorY18
namespace Go.Proofs.YtaeiclgdhchneaaGreatDoor
open Go.RowKit

set_option maxHeartbeats 4000000 in
set_option maxRecDepth 100000 in
theorem law_closure {M : Nat} (t : RT) (hM : M ≤ 2147483647) (n1 : Nat) (hn1 : n1 < 18446744073709551616) (nm1 : List UInt8) (hl1 : nm1.length ≤ maxLen) (cs : Array Value) (B : Nat) (w : World) (ht : Tabs B w) (hB : B ≤ w.heap.size) (hT : TreeAt M B w cs t) :
    Calls Tryz.prog 5 #[.agg cs, .int .u64 n1, .string (bs nm1)] w fun e w' => e = .returned (.bool true) ∧ Below w.heap.size w w' := by
  obtain ⟨kd, c, nm, n, fl, a, m, cap, rfl, _, _⟩ := hT.inv
  have hT' := hT.grow hM
  obtain ⟨P, fP, hS, hC, hR⟩ : ∃ P : World → Prop, Firm P ∧ Sta w P (w.alloc (.cells (rv kd c nm n fl (.slice a m cap)) tRu)) ∧ (∀ w', P w' → Blk w.heap.size (rv kd c nm n fl (.slice a m cap)) tRu w') ∧ (∀ w', P w' → TreeAt 2147483647 w'.heap.size w' (rv kd c nm n fl (.slice a m cap)) t) :=
    ⟨_, firm_and (firm_tre 2147483647 (rv kd c nm n fl (.slice a m cap)) t) (firm_blk _ _ _), (Sta.start ht hB ⟨B, hB, hT'⟩ : Sta w (Tre 2147483647 (rv kd c nm n fl (.slice a m cap)) t) w).alloc (firm_tre _ _ _) (rv kd c nm n fl (.slice a m cap)) tRu, fun _ h => h.2, fun _ h => h.1.at⟩
  have CL := Lib.hid (fun w' (h : Sta w P w') => (hC w' h.keep).cells)
  have S0 := Lib.hid hS
  have HC0 := Lib.hid hC
  have HR0 := Lib.hid hR
  have HZ := Lib.hid (fun w' (h : Sta w P w') => (fits2_any kd c nm n fl a m cap w').mono (R' := fun e w'' => ∃ bl : Bool, e = .returned (.bool bl) ∧ Sta w P w'') fun _ _ ⟨bl, e, b⟩ => ⟨bl, e, h.step fP b⟩)
  clear hS hC hR ht hB hT hT'
  by_cases h1 : nm1.length ≤ 2147483647
  · go_enter Tryz.func5, Tryz.ntmps5
    go_wp2_with fail
    refine (HZ.out _ S0.out).mono ?_
    rintro e w1 ⟨bl, rfl, h1⟩
    obtain ⟨a0, a1, a2, a3, a4, a5⟩ := CL.out _ h1
    have S1 := Lib.hid h1
    clear h1
    cases bl with
    | false =>
      go_wp2
      go_ret
      exact ⟨rfl, S1.out.below⟩
    | true =>
      obtain ⟨P2, fP2, hS2, hC2, hD2, hR2, hT2⟩ : ∃ P2 : World → Prop, Firm P2 ∧ Sta w P2 ((w1.alloc (.cells (rv kd c nm n fl (.slice a m cap)) tRu)).alloc (.cells #[.int .i64 5, .int .u8 67, .string (bs nm1), .int .u64 n1, .bool false, .slice (some ⟨w1.heap.size, 0, none⟩) 1 1] tRu)) ∧ (∀ w', P2 w' → Blk w.heap.size (rv kd c nm n fl (.slice a m cap)) tRu w') ∧ (∀ w', P2 w' → Blk (w1.heap.size + 1) (rv 5 67 nm1 n1 false (.slice (some ⟨w1.heap.size, 0, none⟩) 1 1)) tRu w') ∧ (∀ w', P2 w' → TreeAt 2147483647 w'.heap.size w' (rv kd c nm n fl (.slice a m cap)) t) ∧ (∀ w', P2 w' → TreeAt 2147483647 w'.heap.size w' (rv 5 67 nm1 n1 false (.slice (some ⟨w1.heap.size, 0, none⟩) 1 1)) (.mk 5 67 nm1 n1 false [t])) := by
        have s1 := S1.out.alloc fP (rv kd c nm n fl (.slice a m cap)) tRu
        have s2 := s1.alloc (firm_and fP (firm_blk _ _ _)) (rv 5 67 nm1 n1 false (.slice (some ⟨w1.heap.size, 0, none⟩) 1 1)) tRu
        refine ⟨_, firm_and (firm_and fP (firm_blk _ _ _)) (firm_blk _ _ _), s2, fun w' h => HC0.out w' h.1.1, fun w' h => by simpa using h.2, fun w' h => HR0.out w' h.1.1, fun w' h => ?_⟩
        exact tree_one ⟨_, Nat.le_refl _, HR0.out w' h.1.1⟩ h.1.2 5 67 nm1 n1 false hn1 h1 (by omega)
      clear CL HZ
      have CL := Lib.hid (fun w' (h : Sta w P2 w') => (⟨(hC2 w' h.keep).cells, (hD2 w' h.keep).cells⟩ : _ ∧ _))
      have S2 := Lib.hid hS2
      have HF := Lib.hid (fun w' (h : Sta w P2 w') => h.callB fP2 (rustFits_any (.mk 5 67 nm1 n1 false [t]) 5 67 nm1 n1 false (.slice (some ⟨w1.heap.size, 0, none⟩) 1 1) (Nat.le_refl _) w'.heap.size w' h.tabs (Nat.le_refl _) (hT2 w' h.keep)))
      have HR := Lib.hid (fun (hf : FitP (.mk 5 67 nm1 n1 false [t])) w' (h : Sta w P2 w') => h.callB fP2 (roomy_any t hf.nested.1 hf.nested.2.1 hf.nested.2.2.1 kd c nm n fl (.slice a m cap) w'.heap.size w' h.tabs (Nat.le_refl _) (hR2 w' h.keep)))
      have HN := Lib.hid (fun (hf : FitP t) w' (h : Sta w P2 w') => h.call fP2 (Q := fun e => e = .returned (.string (bs (95 :: 82 :: enc idW t)))) (name_text t (by omega : 0 ≤ 20) hf.fit.rt hf.fit.kd hf.fit.sz kd c nm n fl (.slice a m cap) w'.heap.size w' h.tabs (Nat.le_refl _) (hR2 w' h.keep)))
      have HO := Lib.hid (fun (hf : FitP t) w' (h : Sta w P2 w') => h.call fP2 (Q := fun e => e = .returned (.tuple #[.string (bs (tellP t)), .bool true])) (rustTold_any _ (tellP t) hf.readP w'.heap.size w' h.tabs (Nat.le_refl _)))
      have HN2 := Lib.hid (fun (hf : FitP (.mk 5 67 nm1 n1 false [t])) w' (h : Sta w P2 w') => h.call fP2 (Q := fun e => e = .returned (.string (bs (95 :: 82 :: enc idW (.mk 5 67 nm1 n1 false [t]))))) (name_text (.mk 5 67 nm1 n1 false [t]) (by omega : 0 ≤ 20) hf.fit.rt hf.fit.kd hf.fit.sz 5 67 nm1 n1 false (.slice (some ⟨w1.heap.size, 0, none⟩) 1 1) w'.heap.size w' h.tabs (Nat.le_refl _) (hT2 w' h.keep)))
      have HLN : Hid (FitP t → (tellP t).length ≤ 360000) := Lib.hid (fun hf => hf.tlenP (.p true))
      have HSY := Lib.hid (fun (hf : FitP (.mk 5 67 nm1 n1 false [t])) (txt : List UInt8) (h0 : tellP (.mk 5 67 nm1 n1 false [t]) = txt) w' (h : Sta w P2 w') => h.call fP2 (Q := fun e => e = .returned (.bool true)) (rustSays_any _ txt (h0 ▸ hf.readP) w'.heap.size w' h.tabs (Nat.le_refl _)))
      have HDE := Lib.hid (fun w' (h : Sta w P2 w') => h.call fP2 (Q := fun e => e = .returned (.string (bs (Lib.decDigits n1)))) (decimal_text n1 hn1 w'))
      clear hS2 hC2 hD2 hR2 hT2 fP2
      go_wp2_with fail
      refine (HF.out _ S2.out).mono ?_
      rintro e w3 ⟨bl, rfl, hq, h3⟩
      obtain ⟨⟨a0, a1, a2, a3, a4, a5⟩, b0, b1, b2, b3, b4, b5⟩ := CL.out _ h3
      have S3 := Lib.hid h3
      clear h3
      cases bl with
      | false =>
        clear hq
        go_wp2
        go_ret
        exact ⟨rfl, S3.out.below⟩
      | true =>
        have FT := Lib.hid (hq rfl)
        clear hq
        go_wp2_with fail
        refine ((HR.out FT.out) _ S3.out).mono ?_
        rintro e w4 ⟨bl, rfl, hq, h4⟩
        obtain ⟨⟨a0, a1, a2, a3, a4, a5⟩, b0, b1, b2, b3, b4, b5⟩ := CL.out _ h4
        have S4 := Lib.hid h4
        clear h4
        cases bl with
        | false =>
          clear hq
          go_wp2
          go_ret
          exact ⟨rfl, S4.out.below⟩
        | true =>
          have FP := Lib.hid (hq rfl)
          clear hq
          have g1 := HLN.out FP.out
          have gd := decDigits_le 19 n1 (by omega)
          by_cases hnm : nm1 = []
          · have hne : (bs nm1).toList.isEmpty = true := by rw [hnm, ByteArray.toList_eq]; rfl
            have ez : bs (tellP t ++ [58, 58, 123, 99, 108, 111, 115, 117, 114, 101]) ++ bs nm1 = bs (tellP t ++ [58, 58, 123, 99, 108, 111, 115, 117, 114, 101]) := by
              rw [hnm, bs_append]
              simp
            have e1 : bs (tellP t) ++ (⟨#[58, 58, 123, 99, 108, 111, 115, 117, 114, 101]⟩ : ByteArray) = bs (tellP t ++ [58, 58, 123, 99, 108, 111, 115, 117, 114, 101]) := by
              rw [show (⟨#[58, 58, 123, 99, 108, 111, 115, 117, 114, 101]⟩ : ByteArray) = bs [58, 58, 123, 99, 108, 111, 115, 117, 114, 101] from rfl, bs_append] <;> first | rfl | simp
            have e2 : bs (tellP t ++ [58, 58, 123, 99, 108, 111, 115, 117, 114, 101]) ++ (⟨#[35]⟩ : ByteArray) = bs (tellP t ++ (58 :: 58 :: 123 :: 99 :: 108 :: 111 :: 115 :: 117 :: 114 :: 101 :: [35])) := by
              rw [show (⟨#[35]⟩ : ByteArray) = bs [35] from rfl, bs_append] <;> first | rfl | simp
            have e3 : bs (tellP t ++ (58 :: 58 :: 123 :: 99 :: 108 :: 111 :: 115 :: 117 :: 114 :: 101 :: [35])) ++ bs (Lib.decDigits n1) = bs (tellP t ++ (58 :: 58 :: 123 :: 99 :: 108 :: 111 :: 115 :: 117 :: 114 :: 101 :: (35 :: Lib.decDigits n1))) := by
              rw [bs_append] <;> first | rfl | simp
            have e4 : bs (tellP t ++ (58 :: 58 :: 123 :: 99 :: 108 :: 111 :: 115 :: 117 :: 114 :: 101 :: (35 :: Lib.decDigits n1))) ++ (⟨#[125]⟩ : ByteArray) = bs (tellP t ++ (58 :: 58 :: 123 :: 99 :: 108 :: 111 :: 115 :: 117 :: 114 :: 101 :: (35 :: (Lib.decDigits n1 ++ [125])))) := by
              rw [show (⟨#[125]⟩ : ByteArray) = bs [125] from rfl, bs_append] <;> first | rfl | simp
            have e0 : tellP (.mk 5 67 nm1 n1 false [t]) = (tellP t ++ (58 :: 58 :: 123 :: 99 :: 108 :: 111 :: 115 :: 117 :: 114 :: 101 :: (35 :: (Lib.decDigits n1 ++ [125])))) := by
              rw [tellP_nested]
              simp [nestText, hnm]
            clear hnm
            go_wp2_with fail
            refine (HN.out FP.out _ S4.out).mono ?_
            rintro e w5 ⟨rfl, h5⟩
            obtain ⟨⟨a0, a1, a2, a3, a4, a5⟩, b0, b1, b2, b3, b4, b5⟩ := CL.out _ h5
            have S5 := Lib.hid h5
            clear h5
            go_wp2_with fail
            refine (HO.out FP.out _ S5.out).mono ?_
            rintro e w6 ⟨rfl, h6⟩
            obtain ⟨⟨a0, a1, a2, a3, a4, a5⟩, b0, b1, b2, b3, b4, b5⟩ := CL.out _ h6
            have S6 := Lib.hid h6
            clear h6
            go_wp2_with fail
            refine (HN2.out FT.out _ S6.out).mono ?_
            rintro e w7 ⟨rfl, h7⟩
            obtain ⟨⟨a0, a1, a2, a3, a4, a5⟩, b0, b1, b2, b3, b4, b5⟩ := CL.out _ h7
            have S7 := Lib.hid h7
            clear h7
            go_wp2_with fail
            refine (HDE.out _ S7.out).mono ?_
            rintro e w8 ⟨rfl, h8⟩
            obtain ⟨⟨a0, a1, a2, a3, a4, a5⟩, b0, b1, b2, b3, b4, b5⟩ := CL.out _ h8
            have S8 := Lib.hid h8
            clear h8
            go_wp2_with fail
            refine (HSY.out FT.out _ e0 _ S8.out).mono ?_
            rintro e w9 ⟨rfl, h9⟩
            obtain ⟨⟨a0, a1, a2, a3, a4, a5⟩, b0, b1, b2, b3, b4, b5⟩ := CL.out _ h9
            have S9 := Lib.hid h9
            clear h9
            go_wp2
            go_ret
            exact ⟨rfl, S9.out.below⟩
          · have hne : (bs nm1).toList.isEmpty = false := by rw [ByteArray.toList_eq]; cases nm1 with | nil => exact absurd rfl hnm | cons _ _ => rfl
            obtain ⟨nm2, hnm2⟩ : ∃ nm2, nm2 = 58 :: nm1 := ⟨_, rfl⟩
            have ez : (⟨#[58]⟩ : ByteArray) ++ bs nm1 = bs nm2 := by rw [hnm2]; exact bs_cons _ _
            have hl2 : nm2.length = nm1.length + 1 := by rw [hnm2]; simp
            have e1 : bs (tellP t) ++ (⟨#[58, 58, 123, 99, 108, 111, 115, 117, 114, 101]⟩ : ByteArray) = bs (tellP t ++ [58, 58, 123, 99, 108, 111, 115, 117, 114, 101]) := by
              rw [show (⟨#[58, 58, 123, 99, 108, 111, 115, 117, 114, 101]⟩ : ByteArray) = bs [58, 58, 123, 99, 108, 111, 115, 117, 114, 101] from rfl, bs_append] <;> first | rfl | simp
            have e2 : bs (tellP t ++ [58, 58, 123, 99, 108, 111, 115, 117, 114, 101]) ++ bs (nm2) = bs (tellP t ++ (58 :: 58 :: 123 :: 99 :: 108 :: 111 :: 115 :: 117 :: 114 :: 101 :: nm2)) := by
              rw [bs_append] <;> first | rfl | simp
            have e3 : bs (tellP t ++ (58 :: 58 :: 123 :: 99 :: 108 :: 111 :: 115 :: 117 :: 114 :: 101 :: nm2)) ++ (⟨#[35]⟩ : ByteArray) = bs (tellP t ++ (58 :: 58 :: 123 :: 99 :: 108 :: 111 :: 115 :: 117 :: 114 :: 101 :: (nm2 ++ [35]))) := by
              rw [show (⟨#[35]⟩ : ByteArray) = bs [35] from rfl, bs_append] <;> first | rfl | simp
            have e4 : bs (tellP t ++ (58 :: 58 :: 123 :: 99 :: 108 :: 111 :: 115 :: 117 :: 114 :: 101 :: (nm2 ++ [35]))) ++ bs (Lib.decDigits n1) = bs (tellP t ++ (58 :: 58 :: 123 :: 99 :: 108 :: 111 :: 115 :: 117 :: 114 :: 101 :: (nm2 ++ (35 :: Lib.decDigits n1)))) := by
              rw [bs_append] <;> first | rfl | simp
            have e5 : bs (tellP t ++ (58 :: 58 :: 123 :: 99 :: 108 :: 111 :: 115 :: 117 :: 114 :: 101 :: (nm2 ++ (35 :: Lib.decDigits n1)))) ++ (⟨#[125]⟩ : ByteArray) = bs (tellP t ++ (58 :: 58 :: 123 :: 99 :: 108 :: 111 :: 115 :: 117 :: 114 :: 101 :: (nm2 ++ (35 :: (Lib.decDigits n1 ++ [125]))))) := by
              rw [show (⟨#[125]⟩ : ByteArray) = bs [125] from rfl, bs_append] <;> first | rfl | simp
            have e0 : tellP (.mk 5 67 nm1 n1 false [t]) = (tellP t ++ (58 :: 58 :: 123 :: 99 :: 108 :: 111 :: 115 :: 117 :: 114 :: 101 :: (nm2 ++ (35 :: (Lib.decDigits n1 ++ [125]))))) := by
              rw [tellP_nested]
              simp [nestText, hnm, hnm2]
            clear hnm hnm2
            go_wp2_with fail
            refine (HN.out FP.out _ S4.out).mono ?_
            rintro e w5 ⟨rfl, h5⟩
            obtain ⟨⟨a0, a1, a2, a3, a4, a5⟩, b0, b1, b2, b3, b4, b5⟩ := CL.out _ h5
            have S5 := Lib.hid h5
            clear h5
            go_wp2_with fail
            refine (HO.out FP.out _ S5.out).mono ?_
            rintro e w6 ⟨rfl, h6⟩
            obtain ⟨⟨a0, a1, a2, a3, a4, a5⟩, b0, b1, b2, b3, b4, b5⟩ := CL.out _ h6
            have S6 := Lib.hid h6
            clear h6
            go_wp2_with fail
            refine (HN2.out FT.out _ S6.out).mono ?_
            rintro e w7 ⟨rfl, h7⟩
            obtain ⟨⟨a0, a1, a2, a3, a4, a5⟩, b0, b1, b2, b3, b4, b5⟩ := CL.out _ h7
            have S7 := Lib.hid h7
            clear h7
            go_wp2_with fail
            refine (HDE.out _ S7.out).mono ?_
            rintro e w8 ⟨rfl, h8⟩
            obtain ⟨⟨a0, a1, a2, a3, a4, a5⟩, b0, b1, b2, b3, b4, b5⟩ := CL.out _ h8
            have S8 := Lib.hid h8
            clear h8
            go_wp2_with fail
            refine (HSY.out FT.out _ e0 _ S8.out).mono ?_
            rintro e w9 ⟨rfl, h9⟩
            obtain ⟨⟨a0, a1, a2, a3, a4, a5⟩, b0, b1, b2, b3, b4, b5⟩ := CL.out _ h9
            have S9 := Lib.hid h9
            clear h9
            go_wp2
            go_ret
            exact ⟨rfl, S9.out.below⟩
  · go_enter Tryz.func5, Tryz.ntmps5
    go_wp2_with fail
    refine (HZ.out _ S0.out).mono ?_
    rintro e w1 ⟨bl, rfl, h1⟩
    cases bl with
    | false =>
      go_wp2
      go_ret
      exact ⟨rfl, h1.below⟩
    | true =>
      go_wp2
      go_ret
      exact ⟨rfl, h1.below⟩
end Go.Proofs.YtaeiclgdhchneaaGreatDoor

/- The law on shims in a path. -/
namespace Go.Proofs.YtaeiclgdhchneaaGreatDoor
open Go.RowKit

set_option maxHeartbeats 4000000 in
set_option maxRecDepth 100000 in
theorem law_shim {M : Nat} (t : RT) (hM : M ≤ 2147483647) (n1 : Nat) (hn1 : n1 < 18446744073709551616) (nm1 : List UInt8) (hl1 : nm1.length ≤ maxLen) (cs : Array Value) (B : Nat) (w : World) (ht : Tabs B w) (hB : B ≤ w.heap.size) (hT : TreeAt M B w cs t) :
    Calls Tryz.prog 6 #[.agg cs, .int .u64 n1, .string (bs nm1)] w fun e w' => e = .returned (.bool true) ∧ Below w.heap.size w w' := by
  obtain ⟨kd, c, nm, n, fl, a, m, cap, rfl, _, _⟩ := hT.inv
  have hT' := hT.grow hM
  obtain ⟨P, fP, hS, hC, hR⟩ : ∃ P : World → Prop, Firm P ∧ Sta w P (w.alloc (.cells (rv kd c nm n fl (.slice a m cap)) tRu)) ∧ (∀ w', P w' → Blk w.heap.size (rv kd c nm n fl (.slice a m cap)) tRu w') ∧ (∀ w', P w' → TreeAt 2147483647 w'.heap.size w' (rv kd c nm n fl (.slice a m cap)) t) :=
    ⟨_, firm_and (firm_tre 2147483647 (rv kd c nm n fl (.slice a m cap)) t) (firm_blk _ _ _), (Sta.start ht hB ⟨B, hB, hT'⟩ : Sta w (Tre 2147483647 (rv kd c nm n fl (.slice a m cap)) t) w).alloc (firm_tre _ _ _) (rv kd c nm n fl (.slice a m cap)) tRu, fun _ h => h.2, fun _ h => h.1.at⟩
  have CL := Lib.hid (fun w' (h : Sta w P w') => (hC w' h.keep).cells)
  have S0 := Lib.hid hS
  have HC0 := Lib.hid hC
  have HR0 := Lib.hid hR
  have HZ := Lib.hid (fun w' (h : Sta w P w') => (fits2_any kd c nm n fl a m cap w').mono (R' := fun e w'' => ∃ bl : Bool, e = .returned (.bool bl) ∧ Sta w P w'') fun _ _ ⟨bl, e, b⟩ => ⟨bl, e, h.step fP b⟩)
  clear hS hC hR ht hB hT hT'
  by_cases h1 : nm1.length ≤ 2147483647
  · go_enter Tryz.func6, Tryz.ntmps6
    go_wp2_with fail
    refine (HZ.out _ S0.out).mono ?_
    rintro e w1 ⟨bl, rfl, h1⟩
    obtain ⟨a0, a1, a2, a3, a4, a5⟩ := CL.out _ h1
    have S1 := Lib.hid h1
    clear h1
    cases bl with
    | false =>
      go_wp2
      go_ret
      exact ⟨rfl, S1.out.below⟩
    | true =>
      obtain ⟨P2, fP2, hS2, hC2, hD2, hR2, hT2⟩ : ∃ P2 : World → Prop, Firm P2 ∧ Sta w P2 ((w1.alloc (.cells (rv kd c nm n fl (.slice a m cap)) tRu)).alloc (.cells #[.int .i64 5, .int .u8 83, .string (bs nm1), .int .u64 n1, .bool false, .slice (some ⟨w1.heap.size, 0, none⟩) 1 1] tRu)) ∧ (∀ w', P2 w' → Blk w.heap.size (rv kd c nm n fl (.slice a m cap)) tRu w') ∧ (∀ w', P2 w' → Blk (w1.heap.size + 1) (rv 5 83 nm1 n1 false (.slice (some ⟨w1.heap.size, 0, none⟩) 1 1)) tRu w') ∧ (∀ w', P2 w' → TreeAt 2147483647 w'.heap.size w' (rv kd c nm n fl (.slice a m cap)) t) ∧ (∀ w', P2 w' → TreeAt 2147483647 w'.heap.size w' (rv 5 83 nm1 n1 false (.slice (some ⟨w1.heap.size, 0, none⟩) 1 1)) (.mk 5 83 nm1 n1 false [t])) := by
        have s1 := S1.out.alloc fP (rv kd c nm n fl (.slice a m cap)) tRu
        have s2 := s1.alloc (firm_and fP (firm_blk _ _ _)) (rv 5 83 nm1 n1 false (.slice (some ⟨w1.heap.size, 0, none⟩) 1 1)) tRu
        refine ⟨_, firm_and (firm_and fP (firm_blk _ _ _)) (firm_blk _ _ _), s2, fun w' h => HC0.out w' h.1.1, fun w' h => by simpa using h.2, fun w' h => HR0.out w' h.1.1, fun w' h => ?_⟩
        exact tree_one ⟨_, Nat.le_refl _, HR0.out w' h.1.1⟩ h.1.2 5 83 nm1 n1 false hn1 h1 (by omega)
      clear CL HZ
      have CL := Lib.hid (fun w' (h : Sta w P2 w') => (⟨(hC2 w' h.keep).cells, (hD2 w' h.keep).cells⟩ : _ ∧ _))
      have S2 := Lib.hid hS2
      have HF := Lib.hid (fun w' (h : Sta w P2 w') => h.callB fP2 (rustFits_any (.mk 5 83 nm1 n1 false [t]) 5 83 nm1 n1 false (.slice (some ⟨w1.heap.size, 0, none⟩) 1 1) (Nat.le_refl _) w'.heap.size w' h.tabs (Nat.le_refl _) (hT2 w' h.keep)))
      have HR := Lib.hid (fun (hf : FitP (.mk 5 83 nm1 n1 false [t])) w' (h : Sta w P2 w') => h.callB fP2 (roomy_any t hf.nested.1 hf.nested.2.1 hf.nested.2.2.1 kd c nm n fl (.slice a m cap) w'.heap.size w' h.tabs (Nat.le_refl _) (hR2 w' h.keep)))
      have HN := Lib.hid (fun (hf : FitP t) w' (h : Sta w P2 w') => h.call fP2 (Q := fun e => e = .returned (.string (bs (95 :: 82 :: enc idW t)))) (name_text t (by omega : 0 ≤ 20) hf.fit.rt hf.fit.kd hf.fit.sz kd c nm n fl (.slice a m cap) w'.heap.size w' h.tabs (Nat.le_refl _) (hR2 w' h.keep)))
      have HO := Lib.hid (fun (hf : FitP t) w' (h : Sta w P2 w') => h.call fP2 (Q := fun e => e = .returned (.tuple #[.string (bs (tellP t)), .bool true])) (rustTold_any _ (tellP t) hf.readP w'.heap.size w' h.tabs (Nat.le_refl _)))
      have HN2 := Lib.hid (fun (hf : FitP (.mk 5 83 nm1 n1 false [t])) w' (h : Sta w P2 w') => h.call fP2 (Q := fun e => e = .returned (.string (bs (95 :: 82 :: enc idW (.mk 5 83 nm1 n1 false [t]))))) (name_text (.mk 5 83 nm1 n1 false [t]) (by omega : 0 ≤ 20) hf.fit.rt hf.fit.kd hf.fit.sz 5 83 nm1 n1 false (.slice (some ⟨w1.heap.size, 0, none⟩) 1 1) w'.heap.size w' h.tabs (Nat.le_refl _) (hT2 w' h.keep)))
      have HLN : Hid (FitP t → (tellP t).length ≤ 360000) := Lib.hid (fun hf => hf.tlenP (.p true))
      have HSY := Lib.hid (fun (hf : FitP (.mk 5 83 nm1 n1 false [t])) (txt : List UInt8) (h0 : tellP (.mk 5 83 nm1 n1 false [t]) = txt) w' (h : Sta w P2 w') => h.call fP2 (Q := fun e => e = .returned (.bool true)) (rustSays_any _ txt (h0 ▸ hf.readP) w'.heap.size w' h.tabs (Nat.le_refl _)))
      have HDE := Lib.hid (fun w' (h : Sta w P2 w') => h.call fP2 (Q := fun e => e = .returned (.string (bs (Lib.decDigits n1)))) (decimal_text n1 hn1 w'))
      clear hS2 hC2 hD2 hR2 hT2 fP2
      go_wp2_with fail
      refine (HF.out _ S2.out).mono ?_
      rintro e w3 ⟨bl, rfl, hq, h3⟩
      obtain ⟨⟨a0, a1, a2, a3, a4, a5⟩, b0, b1, b2, b3, b4, b5⟩ := CL.out _ h3
      have S3 := Lib.hid h3
      clear h3
      cases bl with
      | false =>
        clear hq
        go_wp2
        go_ret
        exact ⟨rfl, S3.out.below⟩
      | true =>
        have FT := Lib.hid (hq rfl)
        clear hq
        go_wp2_with fail
        refine ((HR.out FT.out) _ S3.out).mono ?_
        rintro e w4 ⟨bl, rfl, hq, h4⟩
        obtain ⟨⟨a0, a1, a2, a3, a4, a5⟩, b0, b1, b2, b3, b4, b5⟩ := CL.out _ h4
        have S4 := Lib.hid h4
        clear h4
        cases bl with
        | false =>
          clear hq
          go_wp2
          go_ret
          exact ⟨rfl, S4.out.below⟩
        | true =>
          have FP := Lib.hid (hq rfl)
          clear hq
          have g1 := HLN.out FP.out
          have gd := decDigits_le 19 n1 (by omega)
          by_cases hnm : nm1 = []
          · have hne : (bs nm1).toList.isEmpty = true := by rw [hnm, ByteArray.toList_eq]; rfl
            clear hnm
            go_wp2
            go_ret
            exact ⟨rfl, S4.out.below⟩
          have hne : (bs nm1).toList.isEmpty = false := by rw [ByteArray.toList_eq]; cases nm1 with | nil => exact absurd rfl hnm | cons _ _ => rfl
          · have e1 : bs (tellP t) ++ (⟨#[58, 58, 123, 115, 104, 105, 109, 58]⟩ : ByteArray) = bs (tellP t ++ [58, 58, 123, 115, 104, 105, 109, 58]) := by
              rw [show (⟨#[58, 58, 123, 115, 104, 105, 109, 58]⟩ : ByteArray) = bs [58, 58, 123, 115, 104, 105, 109, 58] from rfl, bs_append] <;> first | rfl | simp
            have e2 : bs (tellP t ++ [58, 58, 123, 115, 104, 105, 109, 58]) ++ bs (nm1) = bs (tellP t ++ (58 :: 58 :: 123 :: 115 :: 104 :: 105 :: 109 :: 58 :: nm1)) := by
              rw [bs_append] <;> first | rfl | simp
            have e3 : bs (tellP t ++ (58 :: 58 :: 123 :: 115 :: 104 :: 105 :: 109 :: 58 :: nm1)) ++ (⟨#[35]⟩ : ByteArray) = bs (tellP t ++ (58 :: 58 :: 123 :: 115 :: 104 :: 105 :: 109 :: 58 :: (nm1 ++ [35]))) := by
              rw [show (⟨#[35]⟩ : ByteArray) = bs [35] from rfl, bs_append] <;> first | rfl | simp
            have e4 : bs (tellP t ++ (58 :: 58 :: 123 :: 115 :: 104 :: 105 :: 109 :: 58 :: (nm1 ++ [35]))) ++ bs (Lib.decDigits n1) = bs (tellP t ++ (58 :: 58 :: 123 :: 115 :: 104 :: 105 :: 109 :: 58 :: (nm1 ++ (35 :: Lib.decDigits n1)))) := by
              rw [bs_append] <;> first | rfl | simp
            have e5 : bs (tellP t ++ (58 :: 58 :: 123 :: 115 :: 104 :: 105 :: 109 :: 58 :: (nm1 ++ (35 :: Lib.decDigits n1)))) ++ (⟨#[125]⟩ : ByteArray) = bs (tellP t ++ (58 :: 58 :: 123 :: 115 :: 104 :: 105 :: 109 :: 58 :: (nm1 ++ (35 :: (Lib.decDigits n1 ++ [125]))))) := by
              rw [show (⟨#[125]⟩ : ByteArray) = bs [125] from rfl, bs_append] <;> first | rfl | simp
            have e0 : tellP (.mk 5 83 nm1 n1 false [t]) = (tellP t ++ (58 :: 58 :: 123 :: 115 :: 104 :: 105 :: 109 :: 58 :: (nm1 ++ (35 :: (Lib.decDigits n1 ++ [125]))))) := by
              rw [tellP_nested]
              simp [nestText, hnm]
            go_wp2_with fail
            refine (HN.out FP.out _ S4.out).mono ?_
            rintro e w5 ⟨rfl, h5⟩
            obtain ⟨⟨a0, a1, a2, a3, a4, a5⟩, b0, b1, b2, b3, b4, b5⟩ := CL.out _ h5
            have S5 := Lib.hid h5
            clear h5
            go_wp2_with fail
            refine (HO.out FP.out _ S5.out).mono ?_
            rintro e w6 ⟨rfl, h6⟩
            obtain ⟨⟨a0, a1, a2, a3, a4, a5⟩, b0, b1, b2, b3, b4, b5⟩ := CL.out _ h6
            have S6 := Lib.hid h6
            clear h6
            go_wp2_with fail
            refine (HN2.out FT.out _ S6.out).mono ?_
            rintro e w7 ⟨rfl, h7⟩
            obtain ⟨⟨a0, a1, a2, a3, a4, a5⟩, b0, b1, b2, b3, b4, b5⟩ := CL.out _ h7
            have S7 := Lib.hid h7
            clear h7
            go_wp2_with fail
            refine (HDE.out _ S7.out).mono ?_
            rintro e w8 ⟨rfl, h8⟩
            obtain ⟨⟨a0, a1, a2, a3, a4, a5⟩, b0, b1, b2, b3, b4, b5⟩ := CL.out _ h8
            have S8 := Lib.hid h8
            clear h8
            go_wp2_with fail
            refine (HSY.out FT.out _ e0 _ S8.out).mono ?_
            rintro e w9 ⟨rfl, h9⟩
            obtain ⟨⟨a0, a1, a2, a3, a4, a5⟩, b0, b1, b2, b3, b4, b5⟩ := CL.out _ h9
            have S9 := Lib.hid h9
            clear h9
            go_wp2
            go_ret
            exact ⟨rfl, S9.out.below⟩
  · go_enter Tryz.func6, Tryz.ntmps6
    go_wp2_with fail
    refine (HZ.out _ S0.out).mono ?_
    rintro e w1 ⟨bl, rfl, h1⟩
    cases bl with
    | false =>
      go_wp2
      go_ret
      exact ⟨rfl, h1.below⟩
    | true =>
      go_wp2
      go_ret
      exact ⟨rfl, h1.below⟩
end Go.Proofs.YtaeiclgdhchneaaGreatDoor

/- Refusals: the reader fails. -/
namespace Go.Proofs.YtaeiclgdhchneaaGreatDoor
open Go.RowKit

abbrev tDE : TypeId := 84
/-- The reader's own error. -/
def errOf (s : ByteArray) (off : Int) : Value := .iface tDE (.agg #[.string s, .int .i64 off])
/-- The reader has failed: a panic with an error of its own is on its way. -/
def Died (e : Ending) : Prop := ∃ (s : ByteArray) (off : Int), e = .panicked [{ v := .iface tDE (.agg #[.string s, .int .i64 off]), recovered := false }]

set_option maxHeartbeats 1000000 in
set_option maxRecDepth 100000 in
theorem fail_any {B b : Nat} {r : RS} {w : World} (h : Rst B b r w) (s : ByteArray) :
    Calls Tryz.prog 68 #[.pointer (some ⟨b, 0, none⟩), .string s] w fun e w' => Died e ∧ w' = w := by
  have c2 : w.cell? ⟨b, 2, none⟩ = some (.int .i64 r.off) := by obtain ⟨ad, buf, h'⟩ := h; exact h'.c2
  clear h
  go_enter Tryz.func68, Tryz.ntmps68
  go_wp2
  exact ⟨rfl, ⟨_, _, rfl⟩, rfl⟩

/-- A part of the reader fails at inp, when it has written n bytes at most. -/
def Refuses (f : FuncId) (xs : Array Value) (lb : Nat) (sk : Bool) (inp : List UInt8) (n : Nat) : Prop :=
  ∀ (B b : Nat) (r : RS) (w : World), Rst B b r w → r.skip = sk → r.life = lb → r.str = inp → (r.skip = false → r.out.length + n ≤ 1000000000) →
    Calls Tryz.prog f (#[.pointer (some ⟨b, 0, none⟩)] ++ xs) w fun e w' => Died e ∧ Kept B w w'
theorem At.refuse {B b : Nat} {r0 : RS} {w0 w : World} {k txt : List UInt8} {G : Nat → Prop} {f : FuncId} {xs : Array Value} {lb n : Nat} {sk : Bool} (hf : Refuses f xs lb sk k n) (h : At B b r0 w0 k txt G w) (hs : r0.skip = sk) (hb : r0.life = lb)
    (hl : r0.skip = false → r0.out.length + (txt.length + n) ≤ 1000000000) : Calls Tryz.prog f (#[.pointer (some ⟨b, 0, none⟩)] ++ xs) w fun e w' => Died e ∧ Kept B w0 w' := by
  obtain ⟨o, l, h1, h2, h3, h4⟩ := h
  have hb2 := RS.to_len r0 k o l txt
  exact (hf B b _ w h3 hs hb rfl (fun e => by have := hl e; omega)).mono fun e w' ⟨d, kk⟩ => ⟨d, h4.trans kk⟩
theorem At.failed {B b : Nat} {r0 : RS} {w0 w : World} {k txt : List UInt8} {G : Nat → Prop} (h : At B b r0 w0 k txt G w) (s : ByteArray) :
    Calls Tryz.prog 68 #[.pointer (some ⟨b, 0, none⟩), .string s] w fun e w' => Died e ∧ Kept B w0 w' := by
  obtain ⟨o, l, h1, h2, h3, h4⟩ := h
  exact (fail_any h3 s).mono fun e w' ⟨d, hw⟩ => ⟨d, hw ▸ h4⟩

set_option maxHeartbeats 2000000 in
set_option maxRecDepth 100000 in
/-- No path begins with another letter. -/
theorem path_other (sep : Bool) (lb : Nat) (sk : Bool) (c : UInt8) (l : List UInt8) (hc : ¬ (65 ≤ c.toNat ∧ c.toNat ≤ 90)) : Refuses 85 #[.bool sep] lb sk (c :: l) 0 := by
  intro B b r w hr hsk hlb hi _
  have c1 : w.cell? ⟨b, 1, none⟩ = some (.string (bs r.str)) := by obtain ⟨ad, buf, h'⟩ := hr; exact h'.c1
  rw [hi] at c1
  have hlt := hr.lt
  have hln := hr.len
  rw [hi] at hln
  simp only [List.length_cons] at hln
  have A := Lib.hid (At.start ((hr.alloc (.cells #[.pointer (some ⟨b, 0, none⟩)] 87)).alloc (.cells #[.bool sep] 4)))
  have d1 : ((c.toNat : Int) == 67) = false := by rw [beq_eq_false_iff_ne]; omega
  have d2 : ((c.toNat : Int) == 77) = false := by rw [beq_eq_false_iff_ne]; omega
  have d3 : ((c.toNat : Int) == 88) = false := by rw [beq_eq_false_iff_ne]; omega
  have d4 : ((c.toNat : Int) == 89) = false := by rw [beq_eq_false_iff_ne]; omega
  have d5 : ((c.toNat : Int) == 78) = false := by rw [beq_eq_false_iff_ne]; omega
  have d6 : ((c.toNat : Int) == 73) = false := by rw [beq_eq_false_iff_ne]; omega
  have d7 : ((c.toNat : Int) == 66) = false := by rw [beq_eq_false_iff_ne]; omega
  clear hi hsk hlb hr hc
  go_enter Tryz.func85, Tryz.ntmps85
  go_wp2_with (go_at_call 68; refine (At.failed A.out _).mono ?_)
  rintro e w1 ⟨⟨s, off, rfl⟩, kk⟩
  go_wp2
  exact ⟨rfl, ⟨_, _, rfl⟩, (((Kept.refl B w).alloc _).alloc _).trans kk⟩

set_option maxHeartbeats 2000000 in
set_option maxRecDepth 100000 in
/-- Behind a whole name nothing but a path may stand. -/
theorem symbol_more (c d : UInt8) (inp l txt : List UInt8) (G : Nat → Prop) (hp : Says 85 #[.bool true] 0 false (c :: inp) (d :: l) txt G) (hc : c.toNat < 48 ∨ 57 < c.toNat) (hd : Refuses 85 #[.bool false] 0 true (d :: l) 0) :
    Refuses 67 #[] 0 false (c :: inp) txt.length := by
  intro B b r w hr hsk hlb hi ho
  have c1 : w.cell? ⟨b, 1, none⟩ = some (.string (bs r.str)) := by obtain ⟨ad, buf, h'⟩ := hr; exact h'.c1
  rw [hi] at c1
  have HI := Lib.hid hi
  have HSK := Lib.hid hsk
  have HLB := Lib.hid hlb
  have HC := Lib.hid hc
  have A := At.start hr
  rw [hi] at A
  have HO := Lib.hid ho
  clear hi hsk hlb hc ho
  go_enter Tryz.func67, Tryz.ntmps67
  go_wp2_with (first
    | (go_at_call 84; refine (isDigit_no c.toNat _ HC.out).mono ?_; rintro e w' ⟨rfl, rfl⟩)
    | (go_at_call 85; refine (A.says hp HSK.out HLB.out (fun e => by simpa using HO.out e)).mono ?_))
  rintro e w1 ⟨rfl, A'⟩
  clear c1 A
  have c1 := A'.c1
  have c5 := A'.c5
  have f5 := A'.fz 5
  have hln := A'.len.2
  simp only [List.length_cons] at hln
  obtain ⟨o, l', h1, h2, h3, h4⟩ := A'
  have H3 := Lib.hid (h3.setSkip true)
  have H4 := Lib.hid (h3.keeps h4 5 (.bool true))
  clear h1 h2 h3 h4
  go_wp2_with (go_at_call 85; refine (hd B b _ _ H3.out rfl (by simpa using HLB.out) rfl (fun e => by simp at e)).mono ?_)
  rintro e w2 ⟨⟨s, off, rfl⟩, kk⟩
  go_wp2
  exact ⟨rfl, ⟨_, _, rfl⟩, H4.out.trans kk⟩

theorem assert_err (v : Value) (w : World) : (Instr.typeAssert (.iface tDE v) 20 tDE true).run Tryz.prog w = .ok (.tuple #[v, .bool true]) w := by kernel_rfl

set_option maxHeartbeats 2000000 in
set_option maxRecDepth 100000 in
/-- The deferred closure, where the frame below panics with the reader's own error. -/
theorem top_catch (k : Nat) (s : ByteArray) (off : Int) (older : List PanicEntry) (w : World) (D0 : w.heap[k]? = some (.cells #[.string ⟨#[]⟩] 9 (0, 0))) (D1 : w.heap[k + 1]? = some (.cells #[.nilIface] 65 (0, 0))) :
    CallsD Tryz.prog 63 #[.pointer (some ⟨k, 0, none⟩), .pointer (some ⟨k + 1, 0, none⟩)] (.panicking ({ v := .iface tDE (.agg #[.string s, .int .i64 off]), recovered := false } :: older)) w fun e u' w' =>
      e = .returned (.tuple #[]) ∧ u' = .panicking ({ v := .iface tDE (.agg #[.string s, .int .i64 off]), recovered := true } :: older) ∧
        w'.heap[k]? = some (.cells #[.string ⟨#[]⟩] 9 (0, 0)) ∧ w'.heap[k + 1]? = some (.cells #[.iface tDE (.agg #[.string s, .int .i64 off])] 65 (0, 0)) ∧ Below k w w' := by
  have lt0 : k < w.heap.size := (Array.getElem?_eq_some_iff.1 D0).1
  have lt1 : k + 1 < w.heap.size := (Array.getElem?_eq_some_iff.1 D1).1
  have c0 : w.cell? ⟨k, 0, none⟩ = some (.string ⟨#[]⟩) := by rw [cellAt D0]; rfl
  have z0 : w.frozen? ⟨k, 0, none⟩ = false := Lib.frozen_of_heap D0 0
  have c1 : w.cell? ⟨k + 1, 0, none⟩ = some .nilIface := by rw [cellAt D1]; rfl
  have z1 : w.frozen? ⟨k + 1, 0, none⟩ = false := Lib.frozen_of_heap D1 0
  have HD0 := Lib.hid D0
  have HD1 := Lib.hid D1
  clear D0 D1
  refine callsD_of_wpS Tryz.func63 rfl fun c₀ cs hu => ?_
  apply wpS_seq
  apply wpS_region
  simp [wpOpsS, go_sem, recoverD, hu, Tryz.ntmps63, Exit.thenS]
  apply wpS_seq
  apply wpS_region
  simp [wpOpsS, go_sem, Exit.thenS]
  refine wpS_cond (t := true) (by simp [Act.eval]) ?_
  simp only [if_true]
  refine wpS_of_wp ?_
  change Code.wp Tryz.prog _ _ { tmps := #[.pointer (some ⟨k, 0, none⟩), .pointer (some ⟨k + 1, 0, none⟩), .iface tDE (.agg #[.string s, .int .i64 off]), undef, undef, .iface tDE (.agg #[.string s, .int .i64 off]), .iface tDE (.agg #[.string s, .int .i64 off]), .bool true, undef, undef, undef, undef, undef, undef, undef, undef, undef], defers := [] } w
  have HA := assert_err
  go_wp2
  have E0 : (w.setCell ⟨k, 0, none⟩ (.string ⟨#[]⟩)).heap[k]? = some (.cells #[.string ⟨#[]⟩] 9 (0, 0)) := setCell_heap HD0.out 0 _
  have E1 : (w.setCell ⟨k, 0, none⟩ (.string ⟨#[]⟩)).heap[k + 1]? = some (.cells #[.nilIface] 65 (0, 0)) := by rw [Below.heap_setCell _ _ _ _ (by simp)]; exact HD1.out
  have F0 : ((w.setCell ⟨k, 0, none⟩ (.string ⟨#[]⟩)).setCell ⟨k + 1, 0, none⟩ (.iface tDE (.agg #[.string s, .int .i64 off]))).heap[k]? = some (.cells #[.string ⟨#[]⟩] 9 (0, 0)) := by rw [Below.heap_setCell _ _ _ _ (by simp)]; exact E0
  have F1 : ((w.setCell ⟨k, 0, none⟩ (.string ⟨#[]⟩)).setCell ⟨k + 1, 0, none⟩ (.iface tDE (.agg #[.string s, .int .i64 off]))).heap[k + 1]? = some (.cells #[.iface tDE (.agg #[.string s, .int .i64 off])] 65 (0, 0)) := setCell_heap E1 0 _
  have sz : ((w.setCell ⟨k, 0, none⟩ (.string ⟨#[]⟩)).setCell ⟨k + 1, 0, none⟩ (.iface tDE (.agg #[.string s, .int .i64 off]))).heap.size = w.heap.size := by simp [World.setCell]
  have G0 := (Below.heap_alloc _ (.cells #[.string s, .int .i64 off] tDE) k (by rw [sz]; exact lt0)).trans F0
  have G1 := (Below.heap_alloc _ (.cells #[.string s, .int .i64 off] tDE) (k + 1) (by rw [sz]; exact lt1)).trans F1
  have GB : Below k w (((w.setCell ⟨k, 0, none⟩ (.string ⟨#[]⟩)).setCell ⟨k + 1, 0, none⟩ (.iface tDE (.agg #[.string s, .int .i64 off]))).alloc (.cells #[.string s, .int .i64 off] tDE)) :=
    ((((Below.refl k w).setCell (p := ⟨k, 0, none⟩) (Nat.le_refl _) _).setCell (p := ⟨k + 1, 0, none⟩) (Nat.le_succ _) _).alloc (by rw [sz]; omega) _)
  exact ⟨rfl, _, rfl, .tuple #[], results_none rfl _ _ _, rfl, rfl, G0, G1, GB⟩
end Go.Proofs.YtaeiclgdhchneaaGreatDoor

