/- The law on bindings. -/
import Derived.Test.YtidokamjbglkbaaGreatDoorY32
import Derived.Test.YtidokamjbglkbaaGreatDoorY36
import Derived.Deep.RegionHeld3
namespace Go.Proofs.YtidokamjbglkbaaGreatDoor
open Go.RowKit

set_option maxHeartbeats 40000000 in
set_option maxRecDepth 100000 in
theorem law_binding {M : Nat} (g : RT) (t : RT) (hM : M ≤ 2147483647) (nm0 : List UInt8) (_hl0 : nm0.length ≤ maxLen) (cs1 cs2 : Array Value) (B : Nat) (w : World) (ht : Tabs B w) (hB : B ≤ w.heap.size) (hT1 : TreeAt M B w cs1 g) (hT2 : TreeAt M B w cs2 t) :
    Calls Tryz.prog 7 #[.string (bs nm0), .agg cs1, .agg cs2] w fun e w' => e = .returned (.bool true) ∧ Below w.heap.size w w' := by
  obtain ⟨kd1, c1, nm1, n1, fl1, ap1, mp1, cap1, rfl, _, _⟩ := hT1.inv
  obtain ⟨kd2, c2, nm2, n2, fl2, ap2, mp2, cap2, rfl, _, _⟩ := hT2.inv
  obtain ⟨P, fP, hS, hC1, hC2, hR1, hR2⟩ : ∃ P : World → Prop, Firm P ∧ Sta w P ((w.alloc (.cells (rv kd1 c1 nm1 n1 fl1 (.slice ap1 mp1 cap1)) tRu)).alloc (.cells (rv kd2 c2 nm2 n2 fl2 (.slice ap2 mp2 cap2)) tRu)) ∧ (∀ w', P w' → Blk (w.heap.size) (rv kd1 c1 nm1 n1 fl1 (.slice ap1 mp1 cap1)) tRu w') ∧ (∀ w', P w' → Blk (w.heap.size + 1) (rv kd2 c2 nm2 n2 fl2 (.slice ap2 mp2 cap2)) tRu w') ∧ (∀ w', P w' → TreeAt M w'.heap.size w' (rv kd1 c1 nm1 n1 fl1 (.slice ap1 mp1 cap1)) g) ∧ (∀ w', P w' → TreeAt M w'.heap.size w' (rv kd2 c2 nm2 n2 fl2 (.slice ap2 mp2 cap2)) t) := by
    have s0 : Sta w (fun w => Tre M (rv kd1 c1 nm1 n1 fl1 (.slice ap1 mp1 cap1)) g w ∧ Tre M (rv kd2 c2 nm2 n2 fl2 (.slice ap2 mp2 cap2)) t w) w := Sta.start ht hB ⟨⟨B, hB, hT1⟩, ⟨B, hB, hT2⟩⟩
    have s1 := s0.alloc (firm_and (firm_tre _ _ _) (firm_tre _ _ _)) (rv kd1 c1 nm1 n1 fl1 (.slice ap1 mp1 cap1)) tRu
    have s2 := s1.alloc (firm_and (firm_and (firm_tre _ _ _) (firm_tre _ _ _)) (firm_blk _ _ _)) (rv kd2 c2 nm2 n2 fl2 (.slice ap2 mp2 cap2)) tRu
    exact ⟨_, (firm_and (firm_and (firm_and (firm_tre _ _ _) (firm_tre _ _ _)) (firm_blk _ _ _)) (firm_blk _ _ _)), s2, fun _ h => by simpa using h.1.2, fun _ h => by simpa using h.2, fun _ h => h.1.1.1.at, fun _ h => h.1.1.2.at⟩
  have CL := Lib.hid (fun w' (h : Sta w P w') => (⟨(hC1 w' h.keep).cells, (hC2 w' h.keep).cells⟩ : _ ∧ _))
  have S0 := Lib.hid hS
  have HZ1 := Lib.hid (fun w' (h : Sta w P w') => (fits2_any kd1 c1 nm1 n1 fl1 ap1 mp1 cap1 w').mono (R' := fun e w'' => ∃ bl : Bool, e = .returned (.bool bl) ∧ Sta w P w'') fun _ _ ⟨bl, e, b⟩ => ⟨bl, e, h.step fP b⟩)
  have HL1 := Lib.hid (fun (hf : FitT g) => (⟨hf.len, hf.tlen⟩ : (pieceOf g).length ≤ 330000 ∧ (tell g).length ≤ 360000))
  have HZ2 := Lib.hid (fun w' (h : Sta w P w') => (fits2_any kd2 c2 nm2 n2 fl2 ap2 mp2 cap2 w').mono (R' := fun e w'' => ∃ bl : Bool, e = .returned (.bool bl) ∧ Sta w P w'') fun _ _ ⟨bl, e, b⟩ => ⟨bl, e, h.step fP b⟩)
  have HL2 := Lib.hid (fun (hf : FitT t) => (⟨hf.len, hf.tlen⟩ : (pieceOf t).length ≤ 330000 ∧ (tell t).length ≤ 360000))
  have HM := Lib.hid hM
  have HC01 := Lib.hid hC1
  have HC02 := Lib.hid hC2
  have HR01 := Lib.hid hR1
  have HR02 := Lib.hid hR2
  obtain ⟨x1, hx1⟩ : ∃ x : List UInt8, x = (112 :: idW nm0) := ⟨_, rfl⟩
  have ex1 : (⟨#[112]⟩ : ByteArray) ++ bs (idW nm0) = bs x1 := by
    rw [hx1, show (⟨#[112]⟩ : ByteArray) = bs [112] from rfl, bs_append] <;> first | rfl | simp
  obtain ⟨x2, hx2⟩ : ∃ x : List UInt8, x = (112 :: (idW nm0 ++ pieceOf t)) := ⟨_, rfl⟩
  have ex2 : bs x1 ++ bs (pieceOf t) = bs x2 := by
    rw [hx2, hx1, bs_append] <;> first | rfl | simp
  obtain ⟨x3, hx3⟩ : ∃ x : List UInt8, x = (112 :: (idW nm0 ++ (pieceOf t ++ [69, 76, 95]))) := ⟨_, rfl⟩
  have ex3 : bs x2 ++ (⟨#[69, 76, 95]⟩ : ByteArray) = bs x3 := by
    rw [hx3, hx2, show (⟨#[69, 76, 95]⟩ : ByteArray) = bs [69, 76, 95] from rfl, bs_append] <;> first | rfl | simp
  obtain ⟨tl, htl⟩ : ∃ x : List UInt8, x = x3 := ⟨_, rfl⟩
  have etl : bs x3 = bs tl := by rw [htl]
  have hbl : tl = (112 :: (idW nm0 ++ (pieceOf t ++ [69, 76, 95]))) := by rw [htl, hx3]
  obtain ⟨x4, hx4⟩ : ∃ x : List UInt8, x = (68 :: 67 :: 49 :: 105 :: tl) := ⟨_, rfl⟩
  have ex4 : (⟨#[68, 67, 49, 105]⟩ : ByteArray) ++ bs (tl) = bs x4 := by
    rw [hx4, show (⟨#[68, 67, 49, 105]⟩ : ByteArray) = bs [68, 67, 49, 105] from rfl, bs_append] <;> first | rfl | simp
  obtain ⟨x5, hx5⟩ : ∃ x : List UInt8, x = (68 :: 73 :: 67 :: 49 :: 105 :: pieceOf g) := ⟨_, rfl⟩
  have ex5 : (⟨#[68, 73, 67, 49, 105]⟩ : ByteArray) ++ bs (pieceOf g) = bs x5 := by
    rw [hx5, show (⟨#[68, 73, 67, 49, 105]⟩ : ByteArray) = bs [68, 73, 67, 49, 105] from rfl, bs_append] <;> first | rfl | simp
  obtain ⟨x6, hx6⟩ : ∃ x : List UInt8, x = (68 :: 73 :: 67 :: 49 :: 105 :: (pieceOf g ++ [69])) := ⟨_, rfl⟩
  have ex6 : bs x5 ++ (⟨#[69]⟩ : ByteArray) = bs x6 := by
    rw [hx6, hx5, show (⟨#[69]⟩ : ByteArray) = bs [69] from rfl, bs_append] <;> first | rfl | simp
  obtain ⟨x7, hx7⟩ : ∃ x : List UInt8, x = (68 :: 73 :: 67 :: 49 :: 105 :: (pieceOf g ++ (69 :: tl))) := ⟨_, rfl⟩
  have ex7 : bs x6 ++ bs (tl) = bs x7 := by
    rw [hx7, hx6, bs_append] <;> first | rfl | simp
  obtain ⟨x8, hx8⟩ : ∃ x : List UInt8, x = (100 :: 121 :: 110 :: 32 :: 105 :: 60 :: nm0) := ⟨_, rfl⟩
  have ex8 : (⟨#[100, 121, 110, 32, 105, 60]⟩ : ByteArray) ++ bs (nm0) = bs x8 := by
    rw [hx8, show (⟨#[100, 121, 110, 32, 105, 60]⟩ : ByteArray) = bs [100, 121, 110, 32, 105, 60] from rfl, bs_append] <;> first | rfl | simp
  obtain ⟨x9, hx9⟩ : ∃ x : List UInt8, x = (100 :: 121 :: 110 :: 32 :: 105 :: 60 :: (nm0 ++ [32, 61, 32])) := ⟨_, rfl⟩
  have ex9 : bs x8 ++ (⟨#[32, 61, 32]⟩ : ByteArray) = bs x9 := by
    rw [hx9, hx8, show (⟨#[32, 61, 32]⟩ : ByteArray) = bs [32, 61, 32] from rfl, bs_append] <;> first | rfl | simp
  obtain ⟨x10, hx10⟩ : ∃ x : List UInt8, x = (100 :: 121 :: 110 :: 32 :: 105 :: 60 :: (nm0 ++ (32 :: 61 :: 32 :: tell t))) := ⟨_, rfl⟩
  have ex10 : bs x9 ++ bs (tell t) = bs x10 := by
    rw [hx10, hx9, bs_append] <;> first | rfl | simp
  obtain ⟨x11, hx11⟩ : ∃ x : List UInt8, x = (100 :: 121 :: 110 :: 32 :: 105 :: 60 :: (nm0 ++ (32 :: 61 :: 32 :: (tell t ++ [62])))) := ⟨_, rfl⟩
  have ex11 : bs x10 ++ (⟨#[62]⟩ : ByteArray) = bs x11 := by
    rw [hx11, hx10, show (⟨#[62]⟩ : ByteArray) = bs [62] from rfl, bs_append] <;> first | rfl | simp
  obtain ⟨x12, hx12⟩ : ∃ x : List UInt8, x = (100 :: 121 :: 110 :: 32 :: 105 :: 60 :: tell g) := ⟨_, rfl⟩
  have ex12 : (⟨#[100, 121, 110, 32, 105, 60]⟩ : ByteArray) ++ bs (tell g) = bs x12 := by
    rw [hx12, show (⟨#[100, 121, 110, 32, 105, 60]⟩ : ByteArray) = bs [100, 121, 110, 32, 105, 60] from rfl, bs_append] <;> first | rfl | simp
  obtain ⟨x13, hx13⟩ : ∃ x : List UInt8, x = (100 :: 121 :: 110 :: 32 :: 105 :: 60 :: (tell g ++ [44, 32])) := ⟨_, rfl⟩
  have ex13 : bs x12 ++ (⟨#[44, 32]⟩ : ByteArray) = bs x13 := by
    rw [hx13, hx12, show (⟨#[44, 32]⟩ : ByteArray) = bs [44, 32] from rfl, bs_append] <;> first | rfl | simp
  obtain ⟨x14, hx14⟩ : ∃ x : List UInt8, x = (100 :: 121 :: 110 :: 32 :: 105 :: 60 :: (tell g ++ (44 :: 32 :: nm0))) := ⟨_, rfl⟩
  have ex14 : bs x13 ++ bs (nm0) = bs x14 := by
    rw [hx14, hx13, bs_append] <;> first | rfl | simp
  obtain ⟨x15, hx15⟩ : ∃ x : List UInt8, x = (100 :: 121 :: 110 :: 32 :: 105 :: 60 :: (tell g ++ (44 :: 32 :: (nm0 ++ [32, 61, 32])))) := ⟨_, rfl⟩
  have ex15 : bs x14 ++ (⟨#[32, 61, 32]⟩ : ByteArray) = bs x15 := by
    rw [hx15, hx14, show (⟨#[32, 61, 32]⟩ : ByteArray) = bs [32, 61, 32] from rfl, bs_append] <;> first | rfl | simp
  obtain ⟨x16, hx16⟩ : ∃ x : List UInt8, x = (100 :: 121 :: 110 :: 32 :: 105 :: 60 :: (tell g ++ (44 :: 32 :: (nm0 ++ (32 :: 61 :: 32 :: tell t))))) := ⟨_, rfl⟩
  have ex16 : bs x15 ++ bs (tell t) = bs x16 := by
    rw [hx16, hx15, bs_append] <;> first | rfl | simp
  obtain ⟨x17, hx17⟩ : ∃ x : List UInt8, x = (100 :: 121 :: 110 :: 32 :: 105 :: 60 :: (tell g ++ (44 :: 32 :: (nm0 ++ (32 :: 61 :: 32 :: (tell t ++ [62])))))) := ⟨_, rfl⟩
  have ex17 : bs x16 ++ (⟨#[62]⟩ : ByteArray) = bs x17 := by
    rw [hx17, hx16, show (⟨#[62]⟩ : ByteArray) = bs [62] from rfl, bs_append] <;> first | rfl | simp
  clear hS hC1 hC2 hR1 hR2 ht hB hT1 hT2 hM
  by_cases h1 : nm0.length ≤ 2147483647
  · go_enter Tryz.func7, Tryz.ntmps7
    go_wp2_with fail
    refine (HZ1.out _ S0.out).mono ?_
    rintro e w1 ⟨bl, rfl, h1⟩
    obtain ⟨⟨q10, q11, q12, q13, q14, q15⟩, q20, q21, q22, q23, q24, q25⟩ := CL.out _ h1
    have S1 := Lib.hid h1
    clear h1
    cases bl with
    | false =>
      go_wp2
      go_ret
      exact ⟨rfl, S1.out.below⟩
    | true =>
      go_wp2_with fail
      refine (HZ2.out _ S1.out).mono ?_
      rintro e w2 ⟨bl, rfl, h2⟩
      obtain ⟨⟨q10, q11, q12, q13, q14, q15⟩, q20, q21, q22, q23, q24, q25⟩ := CL.out _ h2
      have S2 := Lib.hid h2
      clear h2
      cases bl with
      | false =>
        go_wp2
        go_ret
        exact ⟨rfl, S2.out.below⟩
      | true =>
        obtain ⟨P2, fP2, hS2, hD1, hD2, hD3, hE1, hE2⟩ : ∃ P2 : World → Prop, Firm P2 ∧ Sta w P2 (w2.alloc (.cells #[.int .i64 1, .int .u8 0, .string (bs nm0), .int .u64 0, .bool false, .slice none 0 0] tRu)) ∧ (∀ w', P2 w' → Blk (w.heap.size) (rv kd1 c1 nm1 n1 fl1 (.slice ap1 mp1 cap1)) tRu w') ∧ (∀ w', P2 w' → Blk (w.heap.size + 1) (rv kd2 c2 nm2 n2 fl2 (.slice ap2 mp2 cap2)) tRu w') ∧ (∀ w', P2 w' → Blk w2.heap.size (rv 1 0 nm0 0 false (.slice none 0 0)) tRu w') ∧ (∀ w', P2 w' → TreeAt M w'.heap.size w' (rv kd1 c1 nm1 n1 fl1 (.slice ap1 mp1 cap1)) g) ∧ (∀ w', P2 w' → TreeAt M w'.heap.size w' (rv kd2 c2 nm2 n2 fl2 (.slice ap2 mp2 cap2)) t) := by
          have s1 := S2.out.alloc fP (rv 1 0 nm0 0 false (.slice none 0 0)) tRu
          exact ⟨_, firm_and fP (firm_blk _ _ _), s1, fun w' h => HC01.out w' h.1, fun w' h => HC02.out w' h.1, fun w' h => h.2, fun w' h => HR01.out w' h.1, fun w' h => HR02.out w' h.1⟩
        have HS2 := Lib.hid hS2
        clear CL HZ1 HZ2
        have CL := Lib.hid (fun w' (h : Sta w P2 w') => (⟨(hD1 w' h.keep).cells, (hD2 w' h.keep).cells, (hD3 w' h.keep).cells⟩ : _ ∧ _ ∧ _))
        have CF : Hid (∀ w', Sta w P2 w' → (fun w' => w'.cell? ⟨w.heap.size, 0, none⟩ = some (.int .i64 kd1) ∧ w'.cell? ⟨w.heap.size, 1, none⟩ = some (.int .u8 c1.toNat) ∧ w'.cell? ⟨w.heap.size, 2, none⟩ = some (.string (bs nm1)) ∧ w'.cell? ⟨w.heap.size, 3, none⟩ = some (.int .u64 n1) ∧ w'.cell? ⟨w.heap.size, 4, none⟩ = some (.bool fl1) ∧ w'.cell? ⟨w.heap.size, 5, none⟩ = some (.slice ap1 mp1 cap1) ∧ w'.cell? ⟨w.heap.size + 1, 0, none⟩ = some (.int .i64 kd2) ∧ w'.cell? ⟨w.heap.size + 1, 1, none⟩ = some (.int .u8 c2.toNat) ∧ w'.cell? ⟨w.heap.size + 1, 2, none⟩ = some (.string (bs nm2)) ∧ w'.cell? ⟨w.heap.size + 1, 3, none⟩ = some (.int .u64 n2) ∧ w'.cell? ⟨w.heap.size + 1, 4, none⟩ = some (.bool fl2) ∧ w'.cell? ⟨w.heap.size + 1, 5, none⟩ = some (.slice ap2 mp2 cap2) ∧ w'.cell? ⟨w2.heap.size, 0, none⟩ = some (.int .i64 1) ∧ w'.cell? ⟨w2.heap.size, 1, none⟩ = some (.int .u8 (0 : UInt8).toNat) ∧ w'.cell? ⟨w2.heap.size, 2, none⟩ = some (.string (bs nm0)) ∧ w'.cell? ⟨w2.heap.size, 3, none⟩ = some (.int .u64 (0 : Nat)) ∧ w'.cell? ⟨w2.heap.size, 4, none⟩ = some (.bool false) ∧ w'.cell? ⟨w2.heap.size, 5, none⟩ = some (.slice none 0 0)) w') := Lib.hid (fun w' h => by
          obtain ⟨⟨q10, q11, q12, q13, q14, q15⟩, ⟨q20, q21, q22, q23, q24, q25⟩, q30, q31, q32, q33, q34, q35⟩ := CL.out w' h
          exact ⟨q10, q11, q12, q13, q14, q15, q20, q21, q22, q23, q24, q25, q30, q31, q32, q33, q34, q35⟩)
        have HDR := Lib.hid (fun w' (h : Sta w P2 w') => h.drew fP2)
        have HFB := Lib.hid (fun w' (h : Sta w P2 w') => h.callB fP2 (rustFits_any (.mk 1 0 nm0 0 false []) 1 0 nm0 0 false (.slice none 0 0) (Nat.le_refl _) w'.heap.size w' h.tabs (Nat.le_refl _) (tree_leaf 1 0 nm0 0 false (by omega) h1)))
        have HPB := Lib.hid (fun (hf : FitP (.mk 1 0 nm0 0 false [])) w' (h : Sta w P2 w') => h.call fP2 (Q := fun e => e = .returned (.string (bs (67 :: idW nm0)))) (by
          have hm : nameB nm0 = true := by cases hf.fit.rt with | crate b c nm n fl hn hm => exact hm
          have e1 : pieceOf (.mk 1 0 nm0 0 false []) = 67 :: idW nm0 := by simp [pieceOf, emp, enc, dis, nameText, nameB_nil hm, pt, sepOf]
          have := piece_text (.mk 1 0 nm0 0 false []) (by omega : 0 ≤ 20) hf.fit.rt hf.fit.kd hf.fit.sz 1 0 nm0 0 false (.slice none 0 0) w'.heap.size w' h.tabs (Nat.le_refl _) (tree_leaf 1 0 nm0 0 false (by omega) h1 : TreeAt 2147483647 _ _ _ _)
          rw [e1] at this
          exact this))
        have HNB : Hid (FitP (.mk 1 0 nm0 0 false []) → nameB nm0 = true) := Lib.hid (fun hf => by cases hf.fit.rt with | crate b c nm n fl hn hm => exact hm)
        have HF1b := Lib.hid (fun w' (h : Sta w P2 w') => h.callB fP2 (fitsType_any g kd1 c1 nm1 n1 fl1 (.slice ap1 mp1 cap1) HM.out w'.heap.size w' h.tabs (Nat.le_refl _) (hE1 w' h.keep)))
        have HP1b := Lib.hid (fun (hf : FitT g) w' (h : Sta w P2 w') => h.call fP2 (Q := fun e => e = .returned (.string (bs (pieceOf g)))) (piece_text g (by omega : 0 ≤ 20) hf.rt hf.kd hf.sz kd1 c1 nm1 n1 fl1 (.slice ap1 mp1 cap1) w'.heap.size w' h.tabs (Nat.le_refl _) (hE1 w' h.keep)))
        have HA1b := Lib.hid (fun (hf : FitT g) w' (h : Sta w P2 w') => h.call fP2 (Q := fun e => e = .returned (.tuple #[.string (bs (tell g)), .bool true])) (argument_any (pieceOf g) (tell g) (by have := hf.len; omega) (by have := hf.tlen; omega) hf.read w'.heap.size w' h.tabs (Nat.le_refl _)))
        have HF2b := Lib.hid (fun w' (h : Sta w P2 w') => h.callB fP2 (fitsType_any t kd2 c2 nm2 n2 fl2 (.slice ap2 mp2 cap2) HM.out w'.heap.size w' h.tabs (Nat.le_refl _) (hE2 w' h.keep)))
        have HP2b := Lib.hid (fun (hf : FitT t) w' (h : Sta w P2 w') => h.call fP2 (Q := fun e => e = .returned (.string (bs (pieceOf t)))) (piece_text t (by omega : 0 ≤ 20) hf.rt hf.kd hf.sz kd2 c2 nm2 n2 fl2 (.slice ap2 mp2 cap2) w'.heap.size w' h.tabs (Nat.le_refl _) (hE2 w' h.keep)))
        have HA2b := Lib.hid (fun (hf : FitT t) w' (h : Sta w P2 w') => h.call fP2 (Q := fun e => e = .returned (.tuple #[.string (bs (tell t)), .bool true])) (argument_any (pieceOf t) (tell t) (by have := hf.len; omega) (by have := hf.tlen; omega) hf.read w'.heap.size w' h.tabs (Nat.le_refl _)))
        have HI1 := Lib.hid (fun (hm : nameB nm0 = true) (hg : FitT g) (ht : FitT t) w' (h : Sta w P2 w') => h.call fP2 (Q := fun e => e = .returned (.bool true)) (argumentIs_any x4 x11 (by rw [hx4, hbl]; simp only [List.length_cons, List.length_append, List.length_nil]; have := ht.len; have := hg.len; have := idW_max hm; omega) (by rw [hx11]; simp only [List.length_cons, List.length_append, List.length_nil]; have := ht.tlen; have := hg.tlen; have := nameB_len hm; omega) (by rw [hx4, hx11, hbl]; simpa using read_binding1 hm ht) w'.heap.size w' h.tabs (Nat.le_refl _)))
        have HI2 := Lib.hid (fun (hm : nameB nm0 = true) (hg : FitT g) (ht : FitT t) w' (h : Sta w P2 w') => h.call fP2 (Q := fun e => e = .returned (.bool true)) (argumentIs_any x7 x17 (by rw [hx7, hbl]; simp only [List.length_cons, List.length_append, List.length_nil]; have := ht.len; have := hg.len; have := idW_max hm; omega) (by rw [hx17]; simp only [List.length_cons, List.length_append, List.length_nil]; have := ht.tlen; have := hg.tlen; have := nameB_len hm; omega) (by rw [hx7, hx17, hbl]; simpa using read_binding2 hm hg ht) w'.heap.size w' h.tabs (Nat.le_refl _)))
        have HOV : Hid (nameB nm0 = true → FitT g → FitT t → ¬ 9223372036854775807 < 1 + (idW nm0).length ∧ ¬ 9223372036854775807 < x1.length + (pieceOf t).length ∧ ¬ 9223372036854775807 < x2.length + 3 ∧ ¬ 9223372036854775807 < 4 + (tl).length ∧ ¬ 9223372036854775807 < 5 + (pieceOf g).length ∧ ¬ 9223372036854775807 < x5.length + 1 ∧ ¬ 9223372036854775807 < x6.length + (tl).length ∧ ¬ 9223372036854775807 < 6 + (nm0).length ∧ ¬ 9223372036854775807 < x8.length + 3 ∧ ¬ 9223372036854775807 < x9.length + (tell t).length ∧ ¬ 9223372036854775807 < x10.length + 1 ∧ ¬ 9223372036854775807 < 6 + (tell g).length ∧ ¬ 9223372036854775807 < x12.length + 2 ∧ ¬ 9223372036854775807 < x13.length + (nm0).length ∧ ¬ 9223372036854775807 < x14.length + 3 ∧ ¬ 9223372036854775807 < x15.length + (tell t).length ∧ ¬ 9223372036854775807 < x16.length + 1) := Lib.hid (fun hm hg ht => by
            have a1 := ht.len
            have a2 := ht.tlen
            have a3 := hg.len
            have a4 := hg.tlen
            have a5 := idW_max hm
            have a6 := nameB_len hm
            have a7 : tl.length = 1 + (idW nm0).length + (pieceOf t).length + 3 := by rw [hbl]; simp only [List.length_cons, List.length_append, List.length_nil]; omega
            have ox1 : ¬ 9223372036854775807 < 1 + (idW nm0).length := by omega
            have ox2 : ¬ 9223372036854775807 < x1.length + (pieceOf t).length := by rw [hx1]; simp only [List.length_cons]; omega
            have ox3 : ¬ 9223372036854775807 < x2.length + 3 := by rw [hx2]; simp only [List.length_cons, List.length_append]; omega
            have ox4 : ¬ 9223372036854775807 < 4 + (tl).length := by omega
            have ox5 : ¬ 9223372036854775807 < 5 + (pieceOf g).length := by omega
            have ox6 : ¬ 9223372036854775807 < x5.length + 1 := by rw [hx5]; simp only [List.length_cons]; omega
            have ox7 : ¬ 9223372036854775807 < x6.length + (tl).length := by rw [hx6]; simp only [List.length_cons, List.length_append, List.length_nil]; omega
            have ox8 : ¬ 9223372036854775807 < 6 + (nm0).length := by omega
            have ox9 : ¬ 9223372036854775807 < x8.length + 3 := by rw [hx8]; simp only [List.length_cons]; omega
            have ox10 : ¬ 9223372036854775807 < x9.length + (tell t).length := by rw [hx9]; simp only [List.length_cons, List.length_append, List.length_nil]; omega
            have ox11 : ¬ 9223372036854775807 < x10.length + 1 := by rw [hx10]; simp only [List.length_cons, List.length_append]; omega
            have ox12 : ¬ 9223372036854775807 < 6 + (tell g).length := by omega
            have ox13 : ¬ 9223372036854775807 < x12.length + 2 := by rw [hx12]; simp only [List.length_cons]; omega
            have ox14 : ¬ 9223372036854775807 < x13.length + (nm0).length := by rw [hx13]; simp only [List.length_cons, List.length_append, List.length_nil]; omega
            have ox15 : ¬ 9223372036854775807 < x14.length + 3 := by rw [hx14]; simp only [List.length_cons, List.length_append]; omega
            have ox16 : ¬ 9223372036854775807 < x15.length + (tell t).length := by rw [hx15]; simp only [List.length_cons, List.length_append, List.length_nil]; omega
            have ox17 : ¬ 9223372036854775807 < x16.length + 1 := by rw [hx16]; simp only [List.length_cons, List.length_append]; omega
            exact ⟨ox1, ox2, ox3, ox4, ox5, ox6, ox7, ox8, ox9, ox10, ox11, ox12, ox13, ox14, ox15, ox16, ox17⟩)
        have hsl : (bs (67 :: idW nm0)).extract 1 ((idW nm0).length + 1) = bs (idW nm0) := by rw [bs_extract]; simp
        have hs1 : (1 : Int) ≤ ((idW nm0).length : Int) + 1 := by omega
        have hs2 : (0 : Int) ≤ ((idW nm0).length : Int) := by omega
        have S3 := HS2
        obtain ⟨⟨q10, q11, q12, q13, q14, q15⟩, ⟨q20, q21, q22, q23, q24, q25⟩, q30, q31, q32, q33, q34, q35⟩ := CL.out _ S3.out
        clear hS2 hD1 hD2 hD3 hE1 hE2 fP2 HS2 S0 S1 S2 hx1 hx2 hx3 hx4 hx5 hx6 hx7 hx8 hx9 hx10 hx11 hx12 hx13 hx14 hx15 hx16 hx17 htl hbl
        go_wp2_with fail
        refine (HFB.out _ S3.out).mono ?_
        rintro e w4 ⟨bl, rfl, hq, h4⟩
        obtain ⟨⟨q10, q11, q12, q13, q14, q15⟩, ⟨q20, q21, q22, q23, q24, q25⟩, q30, q31, q32, q33, q34, q35⟩ := CL.out _ h4
        have S4 := Lib.hid h4
        clear h4
        cases bl with
        | false =>
          clear hq
          go_wp2
          go_ret
          exact ⟨rfl, S4.out.below⟩
        | true =>
          have FB := Lib.hid (hq rfl)
          clear hq
          go_wp2_with fail
          refine (HF1b.out _ S4.out).mono ?_
          rintro e w5 ⟨bl, rfl, hq, h5⟩
          obtain ⟨⟨q10, q11, q12, q13, q14, q15⟩, ⟨q20, q21, q22, q23, q24, q25⟩, q30, q31, q32, q33, q34, q35⟩ := CL.out _ h5
          have S5 := Lib.hid h5
          clear h5
          cases bl with
          | false =>
            clear hq
            go_wp2
            go_ret
            exact ⟨rfl, S5.out.below⟩
          | true =>
            have FG := Lib.hid (hq rfl)
            clear hq
            go_wp2_with fail
            refine (HF2b.out _ S5.out).mono ?_
            rintro e w6 ⟨bl, rfl, hq, h6⟩
            obtain ⟨⟨q10, q11, q12, q13, q14, q15⟩, ⟨q20, q21, q22, q23, q24, q25⟩, q30, q31, q32, q33, q34, q35⟩ := CL.out _ h6
            have S6 := Lib.hid h6
            clear h6
            cases bl with
            | false =>
              clear hq
              go_wp2
              go_ret
              exact ⟨rfl, S6.out.below⟩
            | true =>
              have FT := Lib.hid (hq rfl)
              clear hq
              have HNM := Lib.hid (HNB.out FB.out)
              obtain ⟨ox1, ox2, ox3, ox4, ox5, ox6, ox7, ox8, ox9, ox10, ox11, ox12, ox13, ox14, ox15, ox16, ox17⟩ := HOV.out HNM.out FG.out FT.out
              go_wp2_with fail
              refine ((HP1b.out FG.out) _ S6.out).mono ?_
              rintro e w7 ⟨rfl, h7⟩
              obtain ⟨⟨q10, q11, q12, q13, q14, q15⟩, ⟨q20, q21, q22, q23, q24, q25⟩, q30, q31, q32, q33, q34, q35⟩ := CL.out _ h7
              have S7 := Lib.hid h7
              clear h7
              go_wp2_with fail
              refine ((HA1b.out FG.out) _ S7.out).mono ?_
              rintro e w8 ⟨rfl, h8⟩
              obtain ⟨⟨q10, q11, q12, q13, q14, q15⟩, ⟨q20, q21, q22, q23, q24, q25⟩, q30, q31, q32, q33, q34, q35⟩ := CL.out _ h8
              have S8 := Lib.hid h8
              clear h8
              go_wp2_with fail
              refine ((HP2b.out FT.out) _ S8.out).mono ?_
              rintro e w9 ⟨rfl, h9⟩
              obtain ⟨⟨q10, q11, q12, q13, q14, q15⟩, ⟨q20, q21, q22, q23, q24, q25⟩, q30, q31, q32, q33, q34, q35⟩ := CL.out _ h9
              have S9 := Lib.hid h9
              clear h9
              go_wp2_with fail
              refine ((HA2b.out FT.out) _ S9.out).mono ?_
              rintro e w10 ⟨rfl, h10⟩
              obtain ⟨⟨q10, q11, q12, q13, q14, q15⟩, ⟨q20, q21, q22, q23, q24, q25⟩, q30, q31, q32, q33, q34, q35⟩ := CL.out _ h10
              have S10 := Lib.hid h10
              clear h10
              have UU := S10.out
              have HQ1 := Lib.hid (HPB.out FB.out)
              have HQ2 := Lib.hid (HP2b.out FT.out)
              have HQ3 := Lib.hid (HI1.out HNM.out FG.out FT.out)
              have HQ4 := Lib.hid (HP1b.out FG.out)
              have HQ5 := Lib.hid (HI2.out HNM.out FG.out FT.out)
              clear HFB HPB HNB HF1b HF2b HP1b HP2b HA1b HA2b HI1 HI2 HOV FB FG FT HNM S3 S4 S5 S6 S7 S8 S9 S10
              go_wp2_with fail
              go_region_held3 (fun w' => w'.cell? ⟨w.heap.size, 0, none⟩ = some (.int .i64 kd1) ∧ w'.cell? ⟨w.heap.size, 1, none⟩ = some (.int .u8 c1.toNat) ∧ w'.cell? ⟨w.heap.size, 2, none⟩ = some (.string (bs nm1)) ∧ w'.cell? ⟨w.heap.size, 3, none⟩ = some (.int .u64 n1) ∧ w'.cell? ⟨w.heap.size, 4, none⟩ = some (.bool fl1) ∧ w'.cell? ⟨w.heap.size, 5, none⟩ = some (.slice ap1 mp1 cap1) ∧ w'.cell? ⟨w.heap.size + 1, 0, none⟩ = some (.int .i64 kd2) ∧ w'.cell? ⟨w.heap.size + 1, 1, none⟩ = some (.int .u8 c2.toNat) ∧ w'.cell? ⟨w.heap.size + 1, 2, none⟩ = some (.string (bs nm2)) ∧ w'.cell? ⟨w.heap.size + 1, 3, none⟩ = some (.int .u64 n2) ∧ w'.cell? ⟨w.heap.size + 1, 4, none⟩ = some (.bool fl2) ∧ w'.cell? ⟨w.heap.size + 1, 5, none⟩ = some (.slice ap2 mp2 cap2) ∧ w'.cell? ⟨w2.heap.size, 0, none⟩ = some (.int .i64 1) ∧ w'.cell? ⟨w2.heap.size, 1, none⟩ = some (.int .u8 (0 : UInt8).toNat) ∧ w'.cell? ⟨w2.heap.size, 2, none⟩ = some (.string (bs nm0)) ∧ w'.cell? ⟨w2.heap.size, 3, none⟩ = some (.int .u64 (0 : Nat)) ∧ w'.cell? ⟨w2.heap.size, 4, none⟩ = some (.bool false) ∧ w'.cell? ⟨w2.heap.size, 5, none⟩ = some (.slice none 0 0)) (first | exact CF.out _ (by assumption) | exact CF.out _ (HDR.out _ (by assumption)))
                (first
                  | (go_at_call_of 12 (bs nm0); refine (HQ1.out _ ?_).mono ?_; (first | assumption | exact HDR.out _ (by assumption)); rintro e v9 ⟨rfl, UU⟩)
                  | (go_at_call_of 12 (bs nm2); refine (HQ2.out _ ?_).mono ?_; (first | assumption | exact HDR.out _ (by assumption)); rintro e v9 ⟨rfl, UU⟩))
              all_goals
                have US := Lib.hid UU
                obtain ⟨⟨q10, q11, q12, q13, q14, q15⟩, ⟨q20, q21, q22, q23, q24, q25⟩, q30, q31, q32, q33, q34, q35⟩ := CL.out _ US.out
                go_wp2_with fail
                refine (HQ3.out _ US.out).mono ?_
                rintro e v1 ⟨rfl, k1⟩
                obtain ⟨⟨q10, q11, q12, q13, q14, q15⟩, ⟨q20, q21, q22, q23, q24, q25⟩, q30, q31, q32, q33, q34, q35⟩ := CL.out _ k1
                have V1 := Lib.hid k1
                clear k1
                go_wp2_with fail
                refine (HQ4.out _ V1.out).mono ?_
                rintro e v2 ⟨rfl, k2⟩
                have V2 := Lib.hid k2
                clear k2
                go_wp2_with fail
                refine (HQ5.out _ V2.out).mono ?_
                rintro e v3 ⟨rfl, k3⟩
                go_wp2
                go_ret
                exact ⟨rfl, k3.below⟩
  · go_enter Tryz.func7, Tryz.ntmps7
    go_wp2
    go_ret
    exact ⟨rfl, S0.out.below⟩
end Go.Proofs.YtidokamjbglkbaaGreatDoor
