/- The law on methods of traits. -/
import Derived.Test.YtidokamjbglkbaaGreatDoorY32
import Derived.Test.YtidokamjbglkbaaGreatDoorY36
import Derived.Deep.RegionHeld3
namespace Go.Proofs.YtidokamjbglkbaaGreatDoor
open Go.RowKit

set_option maxHeartbeats 40000000 in
set_option maxRecDepth 100000 in
theorem law_as {M : Nat} (p : RT) (t : RT) (q : RT) (hM : M ≤ 2147483647) (cs1 cs2 cs3 : Array Value) (B : Nat) (w : World) (ht : Tabs B w) (hB : B ≤ w.heap.size) (hT1 : TreeAt M B w cs1 p) (hT2 : TreeAt M B w cs2 t) (hT3 : TreeAt M B w cs3 q) :
    Calls Tryz.prog 5 #[.agg cs1, .agg cs2, .agg cs3] w fun e w' => e = .returned (.bool true) ∧ Below w.heap.size w w' := by
  obtain ⟨kd1, c1, nm1, n1, fl1, ap1, mp1, cap1, rfl, _, _⟩ := hT1.inv
  obtain ⟨kd2, c2, nm2, n2, fl2, ap2, mp2, cap2, rfl, _, _⟩ := hT2.inv
  obtain ⟨kd3, c3, nm3, n3, fl3, ap3, mp3, cap3, rfl, _, _⟩ := hT3.inv
  obtain ⟨P, fP, hS, hC1, hC2, hC3, hR1, hR2, hR3⟩ : ∃ P : World → Prop, Firm P ∧ Sta w P (((w.alloc (.cells (rv kd1 c1 nm1 n1 fl1 (.slice ap1 mp1 cap1)) tRu)).alloc (.cells (rv kd2 c2 nm2 n2 fl2 (.slice ap2 mp2 cap2)) tRu)).alloc (.cells (rv kd3 c3 nm3 n3 fl3 (.slice ap3 mp3 cap3)) tRu)) ∧ (∀ w', P w' → Blk (w.heap.size) (rv kd1 c1 nm1 n1 fl1 (.slice ap1 mp1 cap1)) tRu w') ∧ (∀ w', P w' → Blk (w.heap.size + 1) (rv kd2 c2 nm2 n2 fl2 (.slice ap2 mp2 cap2)) tRu w') ∧ (∀ w', P w' → Blk (w.heap.size + 1 + 1) (rv kd3 c3 nm3 n3 fl3 (.slice ap3 mp3 cap3)) tRu w') ∧ (∀ w', P w' → TreeAt M w'.heap.size w' (rv kd1 c1 nm1 n1 fl1 (.slice ap1 mp1 cap1)) p) ∧ (∀ w', P w' → TreeAt M w'.heap.size w' (rv kd2 c2 nm2 n2 fl2 (.slice ap2 mp2 cap2)) t) ∧ (∀ w', P w' → TreeAt M w'.heap.size w' (rv kd3 c3 nm3 n3 fl3 (.slice ap3 mp3 cap3)) q) := by
    have s0 : Sta w (fun w => Tre M (rv kd1 c1 nm1 n1 fl1 (.slice ap1 mp1 cap1)) p w ∧ Tre M (rv kd2 c2 nm2 n2 fl2 (.slice ap2 mp2 cap2)) t w ∧ Tre M (rv kd3 c3 nm3 n3 fl3 (.slice ap3 mp3 cap3)) q w) w := Sta.start ht hB ⟨⟨B, hB, hT1⟩, ⟨B, hB, hT2⟩, ⟨B, hB, hT3⟩⟩
    have s1 := s0.alloc (firm_and (firm_tre _ _ _) (firm_and (firm_tre _ _ _) (firm_tre _ _ _))) (rv kd1 c1 nm1 n1 fl1 (.slice ap1 mp1 cap1)) tRu
    have s2 := s1.alloc (firm_and (firm_and (firm_tre _ _ _) (firm_and (firm_tre _ _ _) (firm_tre _ _ _))) (firm_blk _ _ _)) (rv kd2 c2 nm2 n2 fl2 (.slice ap2 mp2 cap2)) tRu
    have s3 := s2.alloc (firm_and (firm_and (firm_and (firm_tre _ _ _) (firm_and (firm_tre _ _ _) (firm_tre _ _ _))) (firm_blk _ _ _)) (firm_blk _ _ _)) (rv kd3 c3 nm3 n3 fl3 (.slice ap3 mp3 cap3)) tRu
    exact ⟨_, (firm_and (firm_and (firm_and (firm_and (firm_tre _ _ _) (firm_and (firm_tre _ _ _) (firm_tre _ _ _))) (firm_blk _ _ _)) (firm_blk _ _ _)) (firm_blk _ _ _)), s3, fun _ h => by simpa using h.1.1.2, fun _ h => by simpa using h.1.2, fun _ h => by simpa using h.2, fun _ h => h.1.1.1.1.at, fun _ h => h.1.1.1.2.1.at, fun _ h => h.1.1.1.2.2.at⟩
  have CL := Lib.hid (fun w' (h : Sta w P w') => (⟨(hC1 w' h.keep).cells, (hC2 w' h.keep).cells, (hC3 w' h.keep).cells⟩ : _ ∧ _ ∧ _))
  have CF : Hid (∀ w', Sta w P w' → (fun w' => w'.cell? ⟨w.heap.size, 0, none⟩ = some (.int .i64 kd1) ∧ w'.cell? ⟨w.heap.size, 1, none⟩ = some (.int .u8 c1.toNat) ∧ w'.cell? ⟨w.heap.size, 2, none⟩ = some (.string (bs nm1)) ∧ w'.cell? ⟨w.heap.size, 3, none⟩ = some (.int .u64 n1) ∧ w'.cell? ⟨w.heap.size, 4, none⟩ = some (.bool fl1) ∧ w'.cell? ⟨w.heap.size, 5, none⟩ = some (.slice ap1 mp1 cap1) ∧ w'.cell? ⟨w.heap.size + 1, 0, none⟩ = some (.int .i64 kd2) ∧ w'.cell? ⟨w.heap.size + 1, 1, none⟩ = some (.int .u8 c2.toNat) ∧ w'.cell? ⟨w.heap.size + 1, 2, none⟩ = some (.string (bs nm2)) ∧ w'.cell? ⟨w.heap.size + 1, 3, none⟩ = some (.int .u64 n2) ∧ w'.cell? ⟨w.heap.size + 1, 4, none⟩ = some (.bool fl2) ∧ w'.cell? ⟨w.heap.size + 1, 5, none⟩ = some (.slice ap2 mp2 cap2) ∧ w'.cell? ⟨w.heap.size + 1 + 1, 0, none⟩ = some (.int .i64 kd3) ∧ w'.cell? ⟨w.heap.size + 1 + 1, 1, none⟩ = some (.int .u8 c3.toNat) ∧ w'.cell? ⟨w.heap.size + 1 + 1, 2, none⟩ = some (.string (bs nm3)) ∧ w'.cell? ⟨w.heap.size + 1 + 1, 3, none⟩ = some (.int .u64 n3) ∧ w'.cell? ⟨w.heap.size + 1 + 1, 4, none⟩ = some (.bool fl3) ∧ w'.cell? ⟨w.heap.size + 1 + 1, 5, none⟩ = some (.slice ap3 mp3 cap3)) w') := Lib.hid (fun w' h => by
    obtain ⟨⟨q10, q11, q12, q13, q14, q15⟩, ⟨q20, q21, q22, q23, q24, q25⟩, q30, q31, q32, q33, q34, q35⟩ := CL.out w' h
    exact ⟨q10, q11, q12, q13, q14, q15, q20, q21, q22, q23, q24, q25, q30, q31, q32, q33, q34, q35⟩)
  have S0 := Lib.hid hS
  have HDR := Lib.hid (fun w' (h : Sta w P w') => h.drew fP)
  have HZ1 := Lib.hid (fun w' (h : Sta w P w') => (fits2_any kd1 c1 nm1 n1 fl1 ap1 mp1 cap1 w').mono (R' := fun e w'' => ∃ bl : Bool, e = .returned (.bool bl) ∧ Sta w P w'') fun _ _ ⟨bl, e, b⟩ => ⟨bl, e, h.step fP b⟩)
  have HF1 := Lib.hid (fun w' (h : Sta w P w') => h.callB fP (rustFits_any p kd1 c1 nm1 n1 fl1 (.slice ap1 mp1 cap1) hM w'.heap.size w' h.tabs (Nat.le_refl _) (hR1 w' h.keep)))
  have HP1 := Lib.hid (fun (hf : FitT p) w' (h : Sta w P w') => h.call fP (Q := fun e => e = .returned (.string (bs (pieceOf p)))) (piece_text p (by omega : 0 ≤ 20) hf.rt hf.kd hf.sz kd1 c1 nm1 n1 fl1 (.slice ap1 mp1 cap1) w'.heap.size w' h.tabs (Nat.le_refl _) (hR1 w' h.keep)))
  have HA1 := Lib.hid (fun (hf : FitT p) w' (h : Sta w P w') => h.call fP (Q := fun e => e = .returned (.tuple #[.string (bs (tell p)), .bool true])) (argument_any (pieceOf p) (tell p) (by have := hf.len; omega) (by have := hf.tlen; omega) hf.read w'.heap.size w' h.tabs (Nat.le_refl _)))
  have HL1 := Lib.hid (fun (hf : FitT p) => (⟨hf.len, hf.tlen⟩ : (pieceOf p).length ≤ 330000 ∧ (tell p).length ≤ 360000))
  have HZ2 := Lib.hid (fun w' (h : Sta w P w') => (fits2_any kd2 c2 nm2 n2 fl2 ap2 mp2 cap2 w').mono (R' := fun e w'' => ∃ bl : Bool, e = .returned (.bool bl) ∧ Sta w P w'') fun _ _ ⟨bl, e, b⟩ => ⟨bl, e, h.step fP b⟩)
  have HF2 := Lib.hid (fun w' (h : Sta w P w') => h.callB fP (fitsType_any t kd2 c2 nm2 n2 fl2 (.slice ap2 mp2 cap2) hM w'.heap.size w' h.tabs (Nat.le_refl _) (hR2 w' h.keep)))
  have HP2 := Lib.hid (fun (hf : FitT t) w' (h : Sta w P w') => h.call fP (Q := fun e => e = .returned (.string (bs (pieceOf t)))) (piece_text t (by omega : 0 ≤ 20) hf.rt hf.kd hf.sz kd2 c2 nm2 n2 fl2 (.slice ap2 mp2 cap2) w'.heap.size w' h.tabs (Nat.le_refl _) (hR2 w' h.keep)))
  have HA2 := Lib.hid (fun (hf : FitT t) w' (h : Sta w P w') => h.call fP (Q := fun e => e = .returned (.tuple #[.string (bs (tell t)), .bool true])) (argument_any (pieceOf t) (tell t) (by have := hf.len; omega) (by have := hf.tlen; omega) hf.read w'.heap.size w' h.tabs (Nat.le_refl _)))
  have HL2 := Lib.hid (fun (hf : FitT t) => (⟨hf.len, hf.tlen⟩ : (pieceOf t).length ≤ 330000 ∧ (tell t).length ≤ 360000))
  have HZ3 := Lib.hid (fun w' (h : Sta w P w') => (fits2_any kd3 c3 nm3 n3 fl3 ap3 mp3 cap3 w').mono (R' := fun e w'' => ∃ bl : Bool, e = .returned (.bool bl) ∧ Sta w P w'') fun _ _ ⟨bl, e, b⟩ => ⟨bl, e, h.step fP b⟩)
  have HF3 := Lib.hid (fun w' (h : Sta w P w') => h.callB fP (rustFits_any q kd3 c3 nm3 n3 fl3 (.slice ap3 mp3 cap3) hM w'.heap.size w' h.tabs (Nat.le_refl _) (hR3 w' h.keep)))
  have HP3 := Lib.hid (fun (hf : FitT q) w' (h : Sta w P w') => h.call fP (Q := fun e => e = .returned (.string (bs (pieceOf q)))) (piece_text q (by omega : 0 ≤ 20) hf.rt hf.kd hf.sz kd3 c3 nm3 n3 fl3 (.slice ap3 mp3 cap3) w'.heap.size w' h.tabs (Nat.le_refl _) (hR3 w' h.keep)))
  have HA3 := Lib.hid (fun (hf : FitT q) w' (h : Sta w P w') => h.call fP (Q := fun e => e = .returned (.tuple #[.string (bs (tell q)), .bool true])) (argument_any (pieceOf q) (tell q) (by have := hf.len; omega) (by have := hf.tlen; omega) hf.read w'.heap.size w' h.tabs (Nat.le_refl _)))
  have HL3 := Lib.hid (fun (hf : FitT q) => (⟨hf.len, hf.tlen⟩ : (pieceOf q).length ≤ 330000 ∧ (tell q).length ≤ 360000))
  obtain ⟨x1, hx1⟩ : ∃ x : List UInt8, x = (pieceOf t ++ pieceOf q) := ⟨_, rfl⟩
  have ex1 : bs (pieceOf t) ++ bs (pieceOf q) = bs x1 := by
    rw [hx1, bs_append] <;> first | rfl | simp
  obtain ⟨bo, hbo⟩ : ∃ x : List UInt8, x = x1 := ⟨_, rfl⟩
  have ebo : bs x1 = bs bo := by rw [hbo]
  have hbl : bo = pieceOf t ++ pieceOf q := by rw [hbo, hx1]
  obtain ⟨x2, hx2⟩ : ∃ x : List UInt8, x = (95 :: 82 :: 78 :: 118 :: 89 :: bo) := ⟨_, rfl⟩
  have ex2 : (⟨#[95, 82, 78, 118, 89]⟩ : ByteArray) ++ bs (bo) = bs x2 := by
    rw [hx2, show (⟨#[95, 82, 78, 118, 89]⟩ : ByteArray) = bs [95, 82, 78, 118, 89] from rfl, bs_append] <;> first | rfl | simp
  obtain ⟨x3, hx3⟩ : ∃ x : List UInt8, x = (95 :: 82 :: 78 :: 118 :: 89 :: (bo ++ [49, 102])) := ⟨_, rfl⟩
  have ex3 : bs x2 ++ (⟨#[49, 102]⟩ : ByteArray) = bs x3 := by
    rw [hx3, hx2, show (⟨#[49, 102]⟩ : ByteArray) = bs [49, 102] from rfl, bs_append] <;> first | rfl | simp
  obtain ⟨x4, hx4⟩ : ∃ x : List UInt8, x = (95 :: 82 :: 78 :: 118 :: 88 :: pieceOf p) := ⟨_, rfl⟩
  have ex4 : (⟨#[95, 82, 78, 118, 88]⟩ : ByteArray) ++ bs (pieceOf p) = bs x4 := by
    rw [hx4, show (⟨#[95, 82, 78, 118, 88]⟩ : ByteArray) = bs [95, 82, 78, 118, 88] from rfl, bs_append] <;> first | rfl | simp
  obtain ⟨x5, hx5⟩ : ∃ x : List UInt8, x = (95 :: 82 :: 78 :: 118 :: 88 :: (pieceOf p ++ bo)) := ⟨_, rfl⟩
  have ex5 : bs x4 ++ bs (bo) = bs x5 := by
    rw [hx5, hx4, bs_append] <;> first | rfl | simp
  obtain ⟨x6, hx6⟩ : ∃ x : List UInt8, x = (95 :: 82 :: 78 :: 118 :: 88 :: (pieceOf p ++ (bo ++ [49, 102]))) := ⟨_, rfl⟩
  have ex6 : bs x5 ++ (⟨#[49, 102]⟩ : ByteArray) = bs x6 := by
    rw [hx6, hx5, show (⟨#[49, 102]⟩ : ByteArray) = bs [49, 102] from rfl, bs_append] <;> first | rfl | simp
  obtain ⟨x7, hx7⟩ : ∃ x : List UInt8, x = (60 :: tell t) := ⟨_, rfl⟩
  have ex7 : (⟨#[60]⟩ : ByteArray) ++ bs (tell t) = bs x7 := by
    rw [hx7, show (⟨#[60]⟩ : ByteArray) = bs [60] from rfl, bs_append] <;> first | rfl | simp
  obtain ⟨x8, hx8⟩ : ∃ x : List UInt8, x = (60 :: (tell t ++ [32, 97, 115, 32])) := ⟨_, rfl⟩
  have ex8 : bs x7 ++ (⟨#[32, 97, 115, 32]⟩ : ByteArray) = bs x8 := by
    rw [hx8, hx7, show (⟨#[32, 97, 115, 32]⟩ : ByteArray) = bs [32, 97, 115, 32] from rfl, bs_append] <;> first | rfl | simp
  obtain ⟨x9, hx9⟩ : ∃ x : List UInt8, x = (60 :: (tell t ++ (32 :: 97 :: 115 :: 32 :: tell q))) := ⟨_, rfl⟩
  have ex9 : bs x8 ++ bs (tell q) = bs x9 := by
    rw [hx9, hx8, bs_append] <;> first | rfl | simp
  obtain ⟨x10, hx10⟩ : ∃ x : List UInt8, x = (60 :: (tell t ++ (32 :: 97 :: 115 :: 32 :: (tell q ++ [62, 58, 58, 102])))) := ⟨_, rfl⟩
  have ex10 : bs x9 ++ (⟨#[62, 58, 58, 102]⟩ : ByteArray) = bs x10 := by
    rw [hx10, hx9, show (⟨#[62, 58, 58, 102]⟩ : ByteArray) = bs [62, 58, 58, 102] from rfl, bs_append] <;> first | rfl | simp
  have HI1 := Lib.hid (fun (hp : FitP p) (hf : FitT t) (hq : FitP q) w' (h : Sta w P w') => h.call fP (Q := fun e => e = .returned (.bool true)) (rustSays_any x3 x10 (by rw [hx3, hx10, hbl]; simpa using read_asY hf hq) w'.heap.size w' h.tabs (Nat.le_refl _)))
  have HI2 := Lib.hid (fun (hp : FitP p) (hf : FitT t) (hq : FitP q) w' (h : Sta w P w') => h.call fP (Q := fun e => e = .returned (.bool true)) (rustSays_any x6 x10 (by rw [hx6, hx10, hbl]; simpa using read_asX hp hf hq) w'.heap.size w' h.tabs (Nat.le_refl _)))
  have HOV : Hid ((pieceOf p).length ≤ 330000 → (tell p).length ≤ 360000 → (pieceOf t).length ≤ 330000 → (tell t).length ≤ 360000 → (pieceOf q).length ≤ 330000 → (tell q).length ≤ 360000 → ¬ 9223372036854775807 < (pieceOf t).length + (pieceOf q).length ∧ ¬ 9223372036854775807 < 5 + (bo).length ∧ ¬ 9223372036854775807 < x2.length + 2 ∧ ¬ 9223372036854775807 < 5 + (pieceOf p).length ∧ ¬ 9223372036854775807 < x4.length + (bo).length ∧ ¬ 9223372036854775807 < x5.length + 2 ∧ ¬ 9223372036854775807 < 1 + (tell t).length ∧ ¬ 9223372036854775807 < x7.length + 4 ∧ ¬ 9223372036854775807 < x8.length + (tell q).length ∧ ¬ 9223372036854775807 < x9.length + 4) := Lib.hid (fun g1 g1' g2 g2' g3 g3' => by
    have hb : bo.length = (pieceOf t).length + (pieceOf q).length := by rw [hbl, List.length_append]
    have ox1 : ¬ 9223372036854775807 < (pieceOf t).length + (pieceOf q).length := by omega
    have ox2 : ¬ 9223372036854775807 < 5 + (bo).length := by omega
    have ox3 : ¬ 9223372036854775807 < x2.length + 2 := by rw [hx2]; simp only [List.length_cons, List.length_append, List.length_nil]; omega
    have ox4 : ¬ 9223372036854775807 < 5 + (pieceOf p).length := by omega
    have ox5 : ¬ 9223372036854775807 < x4.length + (bo).length := by rw [hx4]; simp only [List.length_cons, List.length_append, List.length_nil]; omega
    have ox6 : ¬ 9223372036854775807 < x5.length + 2 := by rw [hx5]; simp only [List.length_cons, List.length_append, List.length_nil]; omega
    have ox7 : ¬ 9223372036854775807 < 1 + (tell t).length := by omega
    have ox8 : ¬ 9223372036854775807 < x7.length + 4 := by rw [hx7]; simp only [List.length_cons, List.length_append, List.length_nil]; omega
    have ox9 : ¬ 9223372036854775807 < x8.length + (tell q).length := by rw [hx8]; simp only [List.length_cons, List.length_append, List.length_nil]; omega
    have ox10 : ¬ 9223372036854775807 < x9.length + 4 := by rw [hx9]; simp only [List.length_cons, List.length_append, List.length_nil]; omega
    exact ⟨ox1, ox2, ox3, ox4, ox5, ox6, ox7, ox8, ox9, ox10⟩)
  clear hS hC1 hC2 hC3 hR1 hR2 hR3 fP ht hB hT1 hT2 hT3 hM hx1 hx2 hx3 hx4 hx5 hx6 hx7 hx8 hx9 hx10 hbo hbl
  go_enter Tryz.func5, Tryz.ntmps5
  go_wp2_with fail
  refine (HZ1.out _ S0.out).mono ?_
  rintro e w1 ⟨bl, rfl, h1⟩
  obtain ⟨⟨q10, q11, q12, q13, q14, q15⟩, ⟨q20, q21, q22, q23, q24, q25⟩, q30, q31, q32, q33, q34, q35⟩ := CL.out _ h1
  have S1 := Lib.hid h1
  clear h1
  cases bl with
  | false =>
    go_wp2
    go_ret
    exact ⟨rfl, S1.out.below⟩
  | true =>
    go_wp2_with fail
    refine (HZ2.out _ S1.out).mono ?_
    rintro e w2 ⟨bl, rfl, h2⟩
    obtain ⟨⟨q10, q11, q12, q13, q14, q15⟩, ⟨q20, q21, q22, q23, q24, q25⟩, q30, q31, q32, q33, q34, q35⟩ := CL.out _ h2
    have S2 := Lib.hid h2
    clear h2
    cases bl with
    | false =>
      go_wp2
      go_ret
      exact ⟨rfl, S2.out.below⟩
    | true =>
      go_wp2_with fail
      refine (HZ3.out _ S2.out).mono ?_
      rintro e w3 ⟨bl, rfl, h3⟩
      obtain ⟨⟨q10, q11, q12, q13, q14, q15⟩, ⟨q20, q21, q22, q23, q24, q25⟩, q30, q31, q32, q33, q34, q35⟩ := CL.out _ h3
      have S3 := Lib.hid h3
      clear h3
      cases bl with
      | false =>
        go_wp2
        go_ret
        exact ⟨rfl, S3.out.below⟩
      | true =>
        go_wp2_with fail
        refine (HF1.out _ S3.out).mono ?_
        rintro e w4 ⟨bl, rfl, hq, h4⟩
        obtain ⟨⟨q10, q11, q12, q13, q14, q15⟩, ⟨q20, q21, q22, q23, q24, q25⟩, q30, q31, q32, q33, q34, q35⟩ := CL.out _ h4
        have S4 := Lib.hid h4
        clear h4
        cases bl with
        | false =>
          clear hq
          go_wp2
          go_ret
          exact ⟨rfl, S4.out.below⟩
        | true =>
          have FP := Lib.hid (hq rfl)
          clear hq
          go_wp2_with fail
          refine (HF2.out _ S4.out).mono ?_
          rintro e w5 ⟨bl, rfl, hq, h5⟩
          obtain ⟨⟨q10, q11, q12, q13, q14, q15⟩, ⟨q20, q21, q22, q23, q24, q25⟩, q30, q31, q32, q33, q34, q35⟩ := CL.out _ h5
          have S5 := Lib.hid h5
          clear h5
          cases bl with
          | false =>
            clear hq
            go_wp2
            go_ret
            exact ⟨rfl, S5.out.below⟩
          | true =>
            have FT := Lib.hid (hq rfl)
            clear hq
            go_wp2_with fail
            refine (HF3.out _ S5.out).mono ?_
            rintro e w6 ⟨bl, rfl, hq, h6⟩
            obtain ⟨⟨q10, q11, q12, q13, q14, q15⟩, ⟨q20, q21, q22, q23, q24, q25⟩, q30, q31, q32, q33, q34, q35⟩ := CL.out _ h6
            have S6 := Lib.hid h6
            clear h6
            cases bl with
            | false =>
              clear hq
              go_wp2
              go_ret
              exact ⟨rfl, S6.out.below⟩
            | true =>
              have FQ := Lib.hid (hq rfl)
              clear hq
              obtain ⟨g1, g1'⟩ := HL1.out FP.out.fit
              obtain ⟨g2, g2'⟩ := HL2.out FT.out
              obtain ⟨g3, g3'⟩ := HL3.out FQ.out.fit
              obtain ⟨ox1, ox2, ox3, ox4, ox5, ox6, ox7, ox8, ox9, ox10⟩ := HOV.out g1 g1' g2 g2' g3 g3'
              go_wp2_with fail
              refine ((HP2.out FT.out) _ S6.out).mono ?_
              rintro e w7 ⟨rfl, h7⟩
              obtain ⟨⟨q10, q11, q12, q13, q14, q15⟩, ⟨q20, q21, q22, q23, q24, q25⟩, q30, q31, q32, q33, q34, q35⟩ := CL.out _ h7
              have S7 := Lib.hid h7
              clear h7
              go_wp2_with fail
              refine ((HA2.out FT.out) _ S7.out).mono ?_
              rintro e w8 ⟨rfl, h8⟩
              obtain ⟨⟨q10, q11, q12, q13, q14, q15⟩, ⟨q20, q21, q22, q23, q24, q25⟩, q30, q31, q32, q33, q34, q35⟩ := CL.out _ h8
              have S8 := Lib.hid h8
              clear h8
              go_wp2_with fail
              refine ((HP3.out FQ.out.fit) _ S8.out).mono ?_
              rintro e w9 ⟨rfl, h9⟩
              obtain ⟨⟨q10, q11, q12, q13, q14, q15⟩, ⟨q20, q21, q22, q23, q24, q25⟩, q30, q31, q32, q33, q34, q35⟩ := CL.out _ h9
              have S9 := Lib.hid h9
              clear h9
              go_wp2_with fail
              refine ((HA3.out FQ.out.fit) _ S9.out).mono ?_
              rintro e w10 ⟨rfl, h10⟩
              obtain ⟨⟨q10, q11, q12, q13, q14, q15⟩, ⟨q20, q21, q22, q23, q24, q25⟩, q30, q31, q32, q33, q34, q35⟩ := CL.out _ h10
              have S10 := Lib.hid h10
              clear h10
              have UU := S10.out
              clear HZ1 HZ2 HZ3 HF1 HF2 HF3 HA1 HA2 HA3 HL1 HL2 HL3 HOV g1 g1' g2 g2' g3 g3' q10 q11 q12 q13 q14 q15 q20 q21 q22 q23 q24 q25 q30 q31 q32 q33 q34 q35 S0 S1 S2 S3 S4 S5 S6 S7 S8 S9 S10
              have HQ1 := Lib.hid (HP1.out FP.out.fit)
              have HQ2 := Lib.hid (HP2.out FT.out)
              have HQ3 := Lib.hid (HP3.out FQ.out.fit)
              have HQ4 := Lib.hid (HI1.out FP.out FT.out FQ.out)
              have HQ5 := Lib.hid (HI2.out FP.out FT.out FQ.out)
              clear HP1 HP2 HP3 HI1 HI2 FP FT FQ
              go_wp2_with fail
              go_region_held3 (fun w' => w'.cell? ⟨w.heap.size, 0, none⟩ = some (.int .i64 kd1) ∧ w'.cell? ⟨w.heap.size, 1, none⟩ = some (.int .u8 c1.toNat) ∧ w'.cell? ⟨w.heap.size, 2, none⟩ = some (.string (bs nm1)) ∧ w'.cell? ⟨w.heap.size, 3, none⟩ = some (.int .u64 n1) ∧ w'.cell? ⟨w.heap.size, 4, none⟩ = some (.bool fl1) ∧ w'.cell? ⟨w.heap.size, 5, none⟩ = some (.slice ap1 mp1 cap1) ∧ w'.cell? ⟨w.heap.size + 1, 0, none⟩ = some (.int .i64 kd2) ∧ w'.cell? ⟨w.heap.size + 1, 1, none⟩ = some (.int .u8 c2.toNat) ∧ w'.cell? ⟨w.heap.size + 1, 2, none⟩ = some (.string (bs nm2)) ∧ w'.cell? ⟨w.heap.size + 1, 3, none⟩ = some (.int .u64 n2) ∧ w'.cell? ⟨w.heap.size + 1, 4, none⟩ = some (.bool fl2) ∧ w'.cell? ⟨w.heap.size + 1, 5, none⟩ = some (.slice ap2 mp2 cap2) ∧ w'.cell? ⟨w.heap.size + 1 + 1, 0, none⟩ = some (.int .i64 kd3) ∧ w'.cell? ⟨w.heap.size + 1 + 1, 1, none⟩ = some (.int .u8 c3.toNat) ∧ w'.cell? ⟨w.heap.size + 1 + 1, 2, none⟩ = some (.string (bs nm3)) ∧ w'.cell? ⟨w.heap.size + 1 + 1, 3, none⟩ = some (.int .u64 n3) ∧ w'.cell? ⟨w.heap.size + 1 + 1, 4, none⟩ = some (.bool fl3) ∧ w'.cell? ⟨w.heap.size + 1 + 1, 5, none⟩ = some (.slice ap3 mp3 cap3)) (first | exact CF.out _ (by assumption) | exact CF.out _ (HDR.out _ (by assumption)))
                (first
                  | (go_at_call_of 12 (bs nm2); refine (HQ2.out _ ?_).mono ?_; (first | assumption | exact HDR.out _ (by assumption)); rintro e w9 ⟨rfl, UU⟩)
                  | (go_at_call_of 12 (bs nm3); refine (HQ3.out _ ?_).mono ?_; (first | assumption | exact HDR.out _ (by assumption)); rintro e w9 ⟨rfl, UU⟩))
              have US := Lib.hid UU
              obtain ⟨⟨q10, q11, q12, q13, q14, q15⟩, ⟨q20, q21, q22, q23, q24, q25⟩, q30, q31, q32, q33, q34, q35⟩ := CL.out _ US.out
              go_wp2_with fail
              refine (HQ4.out _ US.out).mono ?_
              rintro e v1 ⟨rfl, k1⟩
              obtain ⟨⟨q10, q11, q12, q13, q14, q15⟩, ⟨q20, q21, q22, q23, q24, q25⟩, q30, q31, q32, q33, q34, q35⟩ := CL.out _ k1
              have V1 := Lib.hid k1
              clear k1
              go_wp2_with fail
              refine (HQ1.out _ V1.out).mono ?_
              rintro e v2 ⟨rfl, k2⟩
              have V2 := Lib.hid k2
              clear k2
              go_wp2_with fail
              refine (HQ5.out _ V2.out).mono ?_
              rintro e v3 ⟨rfl, k3⟩
              go_wp2
              go_ret
              exact ⟨rfl, k3.below⟩
end Go.Proofs.YtidokamjbglkbaaGreatDoor
