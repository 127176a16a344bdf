/- The law on bound lifetimes. -/
import Derived.Test.YtidokamjbglkbaaGreatDoorCHasB
import Derived.Test.YtidokamjbglkbaaGreatDoorCLifN
import Derived.Test.YtidokamjbglkbaaGreatDoorY22
import Derived.Deep.RegionHeld3
namespace Go.Proofs.YtidokamjbglkbaaGreatDoor
open Go.RowKit

set_option maxHeartbeats 40000000 in
set_option maxRecDepth 100000 in
theorem law_lifetimes {M : Nat} (t : RT) (hM : M ≤ 2147483647) (cnt idx : Nat) (hcn : cnt < 18446744073709551616) (hin : idx < 18446744073709551616) (cs : Array Value) (B : Nat) (w : World) (ht : Tabs B w) (hB : B ≤ w.heap.size) (hT : TreeAt M B w cs t) :
    Calls Tryz.prog 8 #[.int .u64 cnt, .int .u64 idx, .agg cs] w fun e w' => e = .returned (.bool true) ∧ Below w.heap.size w w' := by
  obtain ⟨kd, c, nm, n, fl, a, m, cap, rfl, _, _⟩ := hT.inv
  have hT' := hT.grow hM
  obtain ⟨P, fP, hS, hC, hR⟩ : ∃ P : World → Prop, Firm P ∧ Sta w P (w.alloc (.cells (rv kd c nm n fl (.slice a m cap)) tRu)) ∧ (∀ w', P w' → Blk w.heap.size (rv kd c nm n fl (.slice a m cap)) tRu w') ∧ (∀ w', P w' → TreeAt 2147483647 w'.heap.size w' (rv kd c nm n fl (.slice a m cap)) t) :=
    ⟨_, firm_and (firm_tre 2147483647 (rv kd c nm n fl (.slice a m cap)) t) (firm_blk _ _ _), (Sta.start ht hB ⟨B, hB, hT'⟩ : Sta w (Tre 2147483647 (rv kd c nm n fl (.slice a m cap)) t) w).alloc (firm_tre _ _ _) (rv kd c nm n fl (.slice a m cap)) tRu, fun _ h => h.2, fun _ h => h.1.at⟩
  have CL := Lib.hid (fun w' (h : Sta w P w') => (hC w' h.keep).cells)
  have S0 := Lib.hid hS
  have HR0 := Lib.hid hR
  have FP0 := Lib.hid fP
  have HCN := Lib.hid hcn
  have HIN := Lib.hid hin
  have HZ := Lib.hid (fun w' (h : Sta w P w') => (fits2_any kd c nm n fl a m cap w').mono (R' := fun e w'' => ∃ bl : Bool, e = .returned (.bool bl) ∧ Sta w P w'') fun _ _ ⟨bl, e, b⟩ => ⟨bl, e, h.step fP b⟩)
  have HF := Lib.hid (fun w' (h : Sta w P w') => h.callB fP (fitsType_any t kd c nm n fl (.slice a m cap) (Nat.le_refl _) w'.heap.size w' h.tabs (Nat.le_refl _) (hR w' h.keep)))
  have HB := Lib.hid (fun w' (h : Sta w P w') => (hasB_any 2147483647 (Nat.le_refl _) _ t (Nat.le_refl _) w'.heap.size kd c nm n fl a m cap w' h.tabs (Nat.le_refl _) (hR w' h.keep)).mono (R' := fun e w'' => ∃ bl : Bool, e = .returned (.bool bl) ∧ (bl = false → noB t) ∧ Sta w P w'') fun _ _ ⟨bl, e, q, b⟩ => ⟨bl, e, q, h.step fP b⟩)
  have HP := Lib.hid (fun (hf : FitT t) w' (h : Sta w P w') => h.call fP (Q := fun e => e = .returned (.string (bs (pieceOf t)))) (piece_text t (by omega : 0 ≤ 20) hf.rt hf.kd hf.sz kd c nm n fl (.slice a m cap) w'.heap.size w' h.tabs (Nat.le_refl _) (hR w' h.keep)))
  have HA := Lib.hid (fun (hf : FitT t) w' (h : Sta w P w') => h.call fP (Q := fun e => e = .returned (.tuple #[.string (bs (tell t)), .bool true])) (argument_any (pieceOf t) (tell t) (by have := hf.len; omega) (by have := hf.tlen; omega) hf.read w'.heap.size w' h.tabs (Nat.le_refl _)))
  have HL := Lib.hid (fun (hf : FitT t) => (⟨hf.len, hf.tlen⟩ : (pieceOf t).length ≤ 330000 ∧ (tell t).length ≤ 360000))
  clear hS hC hR fP ht hB hT hT' hM hcn hin
  go_enter Tryz.func8, Tryz.ntmps8
  go_wp2_with fail
  refine (HZ.out _ S0.out).mono ?_
  rintro e w1 ⟨bl, rfl, h1⟩
  obtain ⟨a0, a1, a2, a3, a4, a5⟩ := CL.out _ h1
  have S1 := Lib.hid h1
  clear h1
  cases bl with
  | false =>
    go_wp2
    go_ret
    exact ⟨rfl, S1.out.below⟩
  | true =>
    by_cases h1 : cnt < 1
    · have d1 : decide ((cnt : Int) < 1) = true := by simp; omega
      go_wp2
      go_ret
      exact ⟨rfl, S1.out.below⟩
    have d1 : decide ((cnt : Int) < 1) = false := by simp; omega
    by_cases h2 : 20 < cnt
    · have d2 : decide (20 < (cnt : Int)) = true := by simp; omega
      go_wp2
      go_ret
      exact ⟨rfl, S1.out.below⟩
    have d2 : decide (20 < (cnt : Int)) = false := by simp; omega
    by_cases h3 : idx < 1
    · have d3 : decide ((idx : Int) < 1) = true := by simp; omega
      go_wp2
      go_ret
      exact ⟨rfl, S1.out.below⟩
    have d3 : decide ((idx : Int) < 1) = false := by simp; omega
    by_cases h4 : cnt < idx
    · have d4 : decide ((cnt : Int) < (idx : Int)) = true := by simp; omega
      go_wp2
      go_ret
      exact ⟨rfl, S1.out.below⟩
    have d4 : decide ((cnt : Int) < (idx : Int)) = false := by simp; omega
    have c1 : cnt ≠ 0 := by omega
    have c2 : cnt ≤ 20 := by omega
    have c3 : idx ≠ 0 := by omega
    have c4 : idx ≤ cnt := by omega
    have C1 := Lib.hid c1
    have C2 := Lib.hid c2
    have C3 := Lib.hid c3
    have C4 := Lib.hid c4
    clear c1 c2 c3 c4 h1 h2 h3 h4
    go_wp2_with fail
    refine (HF.out _ S1.out).mono ?_
    rintro e w2 ⟨bl, rfl, hq, h2⟩
    obtain ⟨a0, a1, a2, a3, a4, a5⟩ := CL.out _ h2
    have S2 := Lib.hid h2
    clear h2
    cases bl with
    | false =>
      clear hq
      go_wp2
      go_ret
      exact ⟨rfl, S2.out.below⟩
    | true =>
      have FT := Lib.hid (hq rfl)
      clear hq
      go_wp2_with fail
      refine (HB.out _ S2.out).mono ?_
      rintro e w3 ⟨bl, rfl, hq, h3⟩
      obtain ⟨a0, a1, a2, a3, a4, a5⟩ := CL.out _ h3
      have S3 := Lib.hid h3
      clear h3
      cases bl with
      | true =>
        clear hq
        go_wp2
        go_ret
        exact ⟨rfl, S3.out.below⟩
      | false =>
        have NB := Lib.hid (hq rfl)
        clear hq
        go_wp2_with fail
        refine ((HP.out FT.out) _ S3.out).mono ?_
        rintro e w4 ⟨rfl, h4⟩
        obtain ⟨a0, a1, a2, a3, a4, a5⟩ := CL.out _ h4
        have S4 := Lib.hid h4
        clear h4
        go_wp2_with fail
        refine ((HA.out FT.out) _ S4.out).mono ?_
        rintro e w5 ⟨rfl, h5⟩
        obtain ⟨a0, a1, a2, a3, a4, a5⟩ := CL.out _ h5
        have S5 := Lib.hid h5
        clear h5
        obtain ⟨P2, fP2, hS2, hC2, hT2⟩ : ∃ P2 : World → Prop, Firm P2 ∧ Sta w P2 (((w5.alloc (.cells (rv kd c nm n fl (.slice a m cap)) tRu)).alloc (.cells #[.int .i64 11, .int .u8 0, .string ⟨#[]⟩, .int .u64 idx, .bool false, .slice (some ⟨w5.heap.size, 0, none⟩) 1 1, .int .i64 7, .int .u8 117, .string ⟨#[]⟩, .int .u64 0, .bool false, .slice none 0 0] tRu)).alloc (.cells #[.int .i64 15, .int .u8 0, .string ⟨#[]⟩, .int .u64 cnt, .bool false, .slice (some ⟨w5.heap.size + 1, 0, none⟩) 2 2] tRu)) ∧ (∀ w', P2 w' → Blk (w5.heap.size + 2) (rv 15 0 [] cnt false (.slice (some ⟨w5.heap.size + 1, 0, none⟩) 2 2)) tRu w') ∧ (∀ w', P2 w' → TreeAt 2147483647 w'.heap.size w' (rv 15 0 [] cnt false (.slice (some ⟨w5.heap.size + 1, 0, none⟩) 2 2)) (lifeFn t cnt idx)) := by
          have s1 := S5.out.alloc FP0.out (rv kd c nm n fl (.slice a m cap)) tRu
          have s2 := s1.alloc (firm_and FP0.out (firm_blk _ _ _)) (twoRv w5.heap.size idx) tRu
          have s3 := s2.alloc (firm_and (firm_and FP0.out (firm_blk _ _ _)) (firm_blk _ _ _)) (rv 15 0 [] cnt false (.slice (some ⟨w5.heap.size + 1, 0, none⟩) 2 2)) tRu
          refine ⟨_, firm_and (firm_and (firm_and FP0.out (firm_blk _ _ _)) (firm_blk _ _ _)) (firm_blk _ _ _), s3, fun w' h => by simpa using h.2, fun w' h => ?_⟩
          exact tree_life ⟨_, Nat.le_refl _, HR0.out w' h.1.1.1⟩ h.1.1.2 cnt idx HCN.out HIN.out (by omega) (by simpa using h.1.2)
        have CF := Lib.hid (fun w' (h : Sta w P2 w') => (hC2 w' h.keep).cells)
        have HS2 := Lib.hid hS2
        have HAL := Lib.hid (fun w' (h : Sta w P2 w') (b : Obj) => h.step fP2 ((Below.refl _ _).alloc (Nat.le_refl _) b))
        have HRT := Lib.hid (life_rt FT.out NB.out C4.out C2.out)
        have hsz := life_size t cnt idx
        have hft := FT.out.sz
        have HRO := Lib.hid (fun w' (h : Sta w P2 w') => h.callB fP2 (rustRoomy_big (lifeFn t cnt idx) 0 (by omega) HRT.out (show isTypeK 15 by decide) (by omega) 15 0 [] cnt false (.slice (some ⟨w5.heap.size + 1, 0, none⟩) 2 2) w'.heap.size w' h.tabs (Nat.le_refl _) (hT2 w' h.keep)))
        have HPI := Lib.hid (fun w' (h : Sta w P2 w') => h.call fP2 (Q := fun e => e = .returned (.string (bs (pieceOf (lifeFn t cnt idx))))) (piece_big (lifeFn t cnt idx) (by omega : 0 ≤ 20) HRT.out (show isTypeK 15 by decide) (by omega) 15 0 [] cnt false (.slice (some ⟨w5.heap.size + 1, 0, none⟩) 2 2) w'.heap.size w' h.tabs (Nat.le_refl _) (hT2 w' h.keep)))
        obtain ⟨ls, hls⟩ : ∃ x : List UInt8, x = letters cnt := ⟨_, rfl⟩
        obtain ⟨on, hon⟩ : ∃ x : List UInt8, x = [39, UInt8.ofNat (97 + (cnt - idx))] := ⟨_, rfl⟩
        have hll : ls.length ≤ 80 := by have := letters_len cnt; have := C2.out; rw [hls]; omega
        have hol : on.length = 2 := by rw [hon]; rfl
        obtain ⟨hlp, hlt⟩ := HL.out FT.out
        obtain ⟨x1, hx1⟩ : ∃ x : List UInt8, x = (102 :: 111 :: 114 :: 60 :: ls) := ⟨_, rfl⟩
        have ex1 : (⟨#[102, 111, 114, 60]⟩ : ByteArray) ++ bs (ls) = bs x1 := by
          rw [hx1, show (⟨#[102, 111, 114, 60]⟩ : ByteArray) = bs [102, 111, 114, 60] from rfl, bs_append] <;> first | rfl | simp
        obtain ⟨x2, hx2⟩ : ∃ x : List UInt8, x = (102 :: 111 :: 114 :: 60 :: (ls ++ [62, 32, 102, 110, 40, 38])) := ⟨_, rfl⟩
        have ex2 : bs x1 ++ (⟨#[62, 32, 102, 110, 40, 38]⟩ : ByteArray) = bs x2 := by
          rw [hx2, hx1, show (⟨#[62, 32, 102, 110, 40, 38]⟩ : ByteArray) = bs [62, 32, 102, 110, 40, 38] from rfl, bs_append] <;> first | rfl | simp
        obtain ⟨x3, hx3⟩ : ∃ x : List UInt8, x = (102 :: 111 :: 114 :: 60 :: (ls ++ (62 :: 32 :: 102 :: 110 :: 40 :: 38 :: on))) := ⟨_, rfl⟩
        have ex3 : bs x2 ++ bs (on) = bs x3 := by
          rw [hx3, hx2, bs_append] <;> first | rfl | simp
        obtain ⟨x4, hx4⟩ : ∃ x : List UInt8, x = (102 :: 111 :: 114 :: 60 :: (ls ++ (62 :: 32 :: 102 :: 110 :: 40 :: 38 :: (on ++ [32])))) := ⟨_, rfl⟩
        have ex4 : bs x3 ++ (⟨#[32]⟩ : ByteArray) = bs x4 := by
          rw [hx4, hx3, show (⟨#[32]⟩ : ByteArray) = bs [32] from rfl, bs_append] <;> first | rfl | simp
        obtain ⟨x5, hx5⟩ : ∃ x : List UInt8, x = (102 :: 111 :: 114 :: 60 :: (ls ++ (62 :: 32 :: 102 :: 110 :: 40 :: 38 :: (on ++ (32 :: tell t))))) := ⟨_, rfl⟩
        have ex5 : bs x4 ++ bs (tell t) = bs x5 := by
          rw [hx5, hx4, bs_append] <;> first | rfl | simp
        obtain ⟨x6, hx6⟩ : ∃ x : List UInt8, x = (102 :: 111 :: 114 :: 60 :: (ls ++ (62 :: 32 :: 102 :: 110 :: 40 :: 38 :: (on ++ (32 :: (tell t ++ [41])))))) := ⟨_, rfl⟩
        have ex6 : bs x5 ++ (⟨#[41]⟩ : ByteArray) = bs x6 := by
          rw [hx6, hx5, show (⟨#[41]⟩ : ByteArray) = bs [41] from rfl, bs_append] <;> first | rfl | simp
        have HTX : Hid (txt .t 0 (lifeFn t cnt idx) = x6) := Lib.hid (by
          rw [life_txt FT.out NB.out C1.out C3.out, life_one cnt idx C3.out, hx6, hls, hon]
          simp [letters])
        have HIS := Lib.hid (fun (hroom : Roomy (enc idW (lifeFn t cnt idx)).length (bnds idW 0 0 (lifeFn t cnt idx))) w' (h : Sta w P2 w') => h.call fP2 (Q := fun e => e = .returned (.bool true)) (argumentIs_any (pieceOf (lifeFn t cnt idx)) x6 (by
          have hen := (enc_ok _ _ (Nat.le_refl _) 0 (by omega) HRT.out).2
          have ep : pieceOf (lifeFn t cnt idx) = enc idW (lifeFn t cnt idx) := by unfold pieceOf; rw [life_emp]; simp
          rw [ep]; omega) (by rw [hx6]; simp only [List.length_cons, List.length_append, List.length_nil]; omega) (by have := read_life FT.out NB.out C4.out C2.out hroom; rwa [HTX.out] at this) w'.heap.size w' h.tabs (Nat.le_refl _)))
        have ox1 : ¬ 9223372036854775807 < 4 + (ls).length := by omega
        have ox2 : ¬ 9223372036854775807 < x1.length + 6 := by rw [hx1]; simp only [List.length_cons]; omega
        have ox3 : ¬ 9223372036854775807 < x2.length + (on).length := by rw [hx2]; simp only [List.length_cons, List.length_append, List.length_nil]; omega
        have ox4 : ¬ 9223372036854775807 < x3.length + 1 := by rw [hx3]; simp only [List.length_cons, List.length_append]; omega
        have ox5 : ¬ 9223372036854775807 < x4.length + (tell t).length := by rw [hx4]; simp only [List.length_cons, List.length_append, List.length_nil]; omega
        have ox6 : ¬ 9223372036854775807 < x5.length + 1 := by rw [hx5]; simp only [List.length_cons, List.length_append]; omega
        have EO : Hid ((⟨#[39]⟩ : ByteArray) ++ bs [UInt8.ofNat (97 + (cnt - idx))] = bs on) := Lib.hid (by
          rw [hon, show (⟨#[39]⟩ : ByteArray) = bs [39] from rfl, bs_append] <;> rfl)
        have HLS := Lib.hid hls
        have HLE := Lib.hid (fun j (h : j ≤ cnt) => (by have := letters_len j; have := C2.out; omega : (letters j).length ≤ 80))
        have w8 : IntKind.u8.wrap (cnt : Int) = (cnt : Int) := IntWalk.u8_in _ (by have := C2.out; omega)
        have W9 := Lib.hid (fun (j : Nat) (h : j ≤ 30) => (IntWalk.u8_in _ (by omega) : IntKind.u8.wrap ((97 : Int) + (j : Int)) = (97 : Int) + (j : Int)))
        clear hC2 hT2 hS2 fP2 HZ HF HB HP HA HL HR0 FP0 HCN HIN CL FT NB HRT HTX S0 S1 S2 S3 S4 S5 hls hon hsz hft hlp hlt hll hol d1 d2 d3 d4 hx1 hx2 hx3 hx4 hx5 hx6
        obtain ⟨b0, b1, b2, b3, b4, b5⟩ := CF.out _ HS2.out
        go_wp2_with fail
        go_loopg [10, 11] cnt (fun q out i wr => ∃ j : Nat, q = cnt - j ∧ j ≤ cnt ∧ out = .string (bs (letters j)) ∧ i = .int .u8 j ∧ Sta w P2 wr)
        case atStart => exact ⟨0, by omega, Nat.zero_le _, rfl, rfl, HS2.out⟩
        case round =>
          obtain ⟨j, rfl, hj, rfl, rfl, S⟩ := hrel
          have HSS := Lib.hid S
          clear S
          by_cases hlt : j < cnt
          · have hle := HLE.out j hj
            by_cases h0 : j = 0
            · subst h0
              have v9 : IntKind.u8.wrap (97 : Int) = 97 := by decide
              have q := conv1 wr 97 97 rfl
              have HA1 := Lib.hid (HAL.out wr HSS.out (.cells #[.int .u8 97] 5))
              have e1 : (⟨#[39]⟩ : ByteArray) ++ bs [97] = bs [39, 97] := by
                rw [show (⟨#[39]⟩ : ByteArray) = bs [39] from rfl, bs_append] <;> rfl
              have E2 := Lib.hid (show bs (letters 0) ++ bs [39, 97] = bs (letters (0 + 1)) by rw [letters_one, letters_zero, bs_append]; rfl)
              have hov : ¬ 9223372036854775807 < (letters 0).length + 2 := by omega
              go_wp2_with fail
              go_roundg (cnt - (0 + 1))
              case measure => omega
              case rel => exact ⟨0 + 1, rfl, by omega, congrArg Value.string E2.out, by go_num, HA1.out⟩
            · have hj20 : j ≤ 30 := by have := C2.out; omega
              have v9 := W9.out j hj20
              have vi : IntKind.u8.wrap ((j : Int) + 1) = ((j + 1 : Nat) : Int) := by rw [IntWalk.u8_in _ (by omega)]; omega
              obtain ⟨cb, hcb⟩ : ∃ cb : UInt8, cb = UInt8.ofNat (97 + j) := ⟨_, rfl⟩
              have q := conv1 wr cb (97 + (j : Int)) (by rw [hcb]; exact ltr_nat j hj20)
              have HA1 := Lib.hid (HAL.out wr HSS.out (.cells #[.int .u8 (97 + (j : Int))] 5))
              have e1 : (⟨#[39]⟩ : ByteArray) ++ bs [cb] = bs [39, cb] := by
                rw [show (⟨#[39]⟩ : ByteArray) = bs [39] from rfl, bs_append] <;> rfl
              obtain ⟨x1, hx1⟩ : ∃ x1, x1 = letters j ++ [44, 32] := ⟨_, rfl⟩
              have E1 : bs (letters j) ++ (⟨#[44, 32]⟩ : ByteArray) = bs x1 := by rw [hx1, show (⟨#[44, 32]⟩ : ByteArray) = bs [44, 32] from rfl, bs_append]
              have E2 := Lib.hid (show bs x1 ++ bs [39, cb] = bs (letters (j + 1)) by rw [letters_succ j h0, hcb, hx1, bs_append]; simp)
              have hov1 : ¬ 9223372036854775807 < (letters j).length + 2 := by omega
              have hov2 : ¬ 9223372036854775807 < x1.length + 2 := by rw [hx1]; simp; omega
              have d0 : decide ((0 : Int) < (j : Int)) = true := by simp; omega
              clear hx1 hcb
              go_wp2_with fail
              go_roundg (cnt - (j + 1))
              case measure => omega
              case rel => exact ⟨j + 1, rfl, by omega, congrArg Value.string E2.out, by go_num, HA1.out⟩
          · obtain rfl : j = cnt := by omega
            have els := HLS.out
            obtain ⟨dn, hdn⟩ : ∃ dn : Nat, dn = j - idx := ⟨_, rfl⟩
            have hdl : dn ≤ 20 := by have := C2.out; omega
            have hd : IntKind.u64.wrap ((j : Int) - (idx : Int)) = (dn : Int) := by have := C4.out; have := C2.out; rw [IntWalk.u64_in _ (by omega)]; omega
            have hd8 : IntKind.u8.wrap (dn : Int) = (dn : Int) := IntWalk.u8_in _ (by omega)
            have v9 := W9.out dn (by omega)
            obtain ⟨cb, hcb⟩ : ∃ cb : UInt8, cb = UInt8.ofNat (97 + dn) := ⟨_, rfl⟩
            have q := conv1 wr cb (97 + (dn : Int)) (by rw [hcb]; exact ltr_nat dn (by omega))
            have HA1 := Lib.hid (HAL.out wr HSS.out (.cells #[.int .u8 (97 + (dn : Int))] 5))
            have e1 : (⟨#[39]⟩ : ByteArray) ++ bs [cb] = bs on := by rw [hcb, hdn]; exact EO.out
            have e2 : bs (letters j) = bs ls := by rw [els]
            obtain ⟨b0, b1, b2, b3, b4, b5⟩ := CF.out _ HA1.out
            clear els hdn hcb hdl
            go_wp2_with fail
            refine (HRO.out _ HA1.out).mono ?_
            rintro e w6 ⟨bl, rfl, hq, h6⟩
            obtain ⟨b0, b1, b2, b3, b4, b5⟩ := CF.out _ h6
            have S6 := Lib.hid h6
            clear h6
            cases bl with
            | false =>
              clear hq
              go_wp2
              go_ret
              exact ⟨rfl, S6.out.below⟩
            | true =>
              have RO := Lib.hid (hq rfl)
              clear hq
              go_wp2_with fail
              refine (HPI.out _ S6.out).mono ?_
              rintro e w7 ⟨rfl, h7⟩
              obtain ⟨b0, b1, b2, b3, b4, b5⟩ := CF.out _ h7
              have S7 := Lib.hid h7
              clear h7
              go_wp2_with fail
              refine (HIS.out RO.out _ S7.out).mono ?_
              rintro e v8 ⟨rfl, h8⟩
              go_wp2
              go_ret
              exact ⟨rfl, h8.below⟩
end Go.Proofs.YtidokamjbglkbaaGreatDoor
