/- The law on methods of a type. -/
import Derived.Test.YtaeiclgdhchneaaGreatDoorY31
import Derived.Test.YtaeiclgdhchneaaGreatDoorY32
import Derived.Test.YtaeiclgdhchneaaGreatDoorY33
import Derived.Test.YtaeiclgdhchneaaGreatDoorY21
import Derived.Test.YtaeiclgdhchneaaGreatDoorY19
import Derived.Deep.RegionHeld3
namespace Go.Proofs.YtaeiclgdhchneaaGreatDoor
open Go.RowKit

set_option maxHeartbeats 40000000 in
set_option maxRecDepth 100000 in
theorem law_method {M : Nat} (p t : RT) (hM : M ≤ 2147483647) (cs cs2 : Array Value) (B : Nat) (w : World) (ht : Tabs B w) (hB : B ≤ w.heap.size) (hP : TreeAt M B w cs p) (hT : TreeAt M B w cs2 t) :
    Calls Tryz.prog 7 #[.agg cs, .agg cs2] w fun e w' => e = .returned (.bool true) ∧ Below w.heap.size w w' := by
  obtain ⟨kd, c, nm, n, fl, a, m, cap, rfl, _, _⟩ := hP.inv
  obtain ⟨kd2, c2, nm2, n2, fl2, aq, mq, capq, rfl, _, _⟩ := hT.inv
  obtain ⟨P, fP, hS, hC1, hC2, hR1, hR2⟩ : ∃ P : World → Prop, Firm P ∧ Sta w P ((w.alloc (.cells (rv kd c nm n fl (.slice a m cap)) tRu)).alloc (.cells (rv kd2 c2 nm2 n2 fl2 (.slice aq mq capq)) tRu)) ∧ (∀ w', P w' → Blk w.heap.size (rv kd c nm n fl (.slice a m cap)) tRu w') ∧ (∀ w', P w' → Blk (w.heap.size + 1) (rv kd2 c2 nm2 n2 fl2 (.slice aq mq capq)) tRu w') ∧ (∀ w', P w' → TreeAt M w'.heap.size w' (rv kd c nm n fl (.slice a m cap)) p) ∧ (∀ w', P w' → TreeAt M w'.heap.size w' (rv kd2 c2 nm2 n2 fl2 (.slice aq mq capq)) t) := by
    have s1 := (Sta.start ht hB ⟨⟨B, hB, hP⟩, ⟨B, hB, hT⟩⟩ : Sta w (fun w => Tre M (rv kd c nm n fl (.slice a m cap)) p w ∧ Tre M (rv kd2 c2 nm2 n2 fl2 (.slice aq mq capq)) t w) w).alloc (firm_and (firm_tre _ _ _) (firm_tre _ _ _)) (rv kd c nm n fl (.slice a m cap)) tRu
    have s2 := s1.alloc (firm_and (firm_and (firm_tre _ _ _) (firm_tre _ _ _)) (firm_blk _ _ _)) (rv kd2 c2 nm2 n2 fl2 (.slice aq mq capq)) tRu
    exact ⟨_, firm_and (firm_and (firm_and (firm_tre _ _ _) (firm_tre _ _ _)) (firm_blk _ _ _)) (firm_blk _ _ _), s2, fun _ h => h.1.2, fun _ h => by simpa using h.2, fun _ h => h.1.1.1.at, fun _ h => h.1.1.2.at⟩
  have CL := Lib.hid (fun w' (h : Sta w P w') => (⟨(hC1 w' h.keep).cells, (hC2 w' h.keep).cells⟩ : _ ∧ _))
  have CF : Hid (∀ w', Sta w P w' → (fun w' => w'.cell? ⟨w.heap.size, 0, none⟩ = some (.int .i64 kd) ∧ w'.cell? ⟨w.heap.size, 1, none⟩ = some (.int .u8 c.toNat) ∧ w'.cell? ⟨w.heap.size, 2, none⟩ = some (.string (bs nm)) ∧ w'.cell? ⟨w.heap.size, 3, none⟩ = some (.int .u64 n) ∧ w'.cell? ⟨w.heap.size, 4, none⟩ = some (.bool fl) ∧ w'.cell? ⟨w.heap.size, 5, none⟩ = some (.slice a m cap) ∧ w'.cell? ⟨w.heap.size + 1, 0, none⟩ = some (.int .i64 kd2) ∧ w'.cell? ⟨w.heap.size + 1, 1, none⟩ = some (.int .u8 c2.toNat) ∧ w'.cell? ⟨w.heap.size + 1, 2, none⟩ = some (.string (bs nm2)) ∧ w'.cell? ⟨w.heap.size + 1, 3, none⟩ = some (.int .u64 n2) ∧ w'.cell? ⟨w.heap.size + 1, 4, none⟩ = some (.bool fl2) ∧ w'.cell? ⟨w.heap.size + 1, 5, none⟩ = some (.slice aq mq capq)) w') := Lib.hid (fun w' h => by
    obtain ⟨⟨a0, a1, a2, a3, a4, a5⟩, b0, b1, b2, b3, b4, b5⟩ := CL.out w' h
    exact ⟨a0, a1, a2, a3, a4, a5, b0, b1, b2, b3, b4, b5⟩)
  have S0 := Lib.hid hS
  have HDR := Lib.hid (fun w' (h : Sta w P w') => h.drew fP)
  have HZ1 := Lib.hid (fun w' (h : Sta w P w') => (fits2_any kd c nm n fl a m cap w').mono (R' := fun e w'' => ∃ bl : Bool, e = .returned (.bool bl) ∧ Sta w P w'') fun _ _ ⟨bl, e, b⟩ => ⟨bl, e, h.step fP b⟩)
  have HZ2 := Lib.hid (fun w' (h : Sta w P w') => (fits2_any kd2 c2 nm2 n2 fl2 aq mq capq w').mono (R' := fun e w'' => ∃ bl : Bool, e = .returned (.bool bl) ∧ Sta w P w'') fun _ _ ⟨bl, e, b⟩ => ⟨bl, e, h.step fP b⟩)
  have HF1 := Lib.hid (fun w' (h : Sta w P w') => h.callB fP (rustFits_any p kd c nm n fl (.slice a m cap) hM w'.heap.size w' h.tabs (Nat.le_refl _) (hR1 w' h.keep)))
  have HF2 := Lib.hid (fun w' (h : Sta w P w') => h.callB fP (fitsType_any t kd2 c2 nm2 n2 fl2 (.slice aq mq capq) hM w'.heap.size w' h.tabs (Nat.le_refl _) (hR2 w' h.keep)))
  have HP1 := Lib.hid (fun (hf : FitP p) w' (h : Sta w P w') => h.call fP (Q := fun e => e = .returned (.string (bs (pieceOf p)))) (piece_text p (by omega : 0 ≤ 20) hf.fit.rt hf.fit.kd hf.fit.sz kd c nm n fl (.slice a m cap) w'.heap.size w' h.tabs (Nat.le_refl _) (hR1 w' h.keep)))
  have HP2 := Lib.hid (fun (hf : FitT t) w' (h : Sta w P w') => h.call fP (Q := fun e => e = .returned (.string (bs (pieceOf t)))) (piece_text t (by omega : 0 ≤ 20) hf.rt hf.kd hf.sz kd2 c2 nm2 n2 fl2 (.slice aq mq capq) w'.heap.size w' h.tabs (Nat.le_refl _) (hR2 w' h.keep)))
  have HA := Lib.hid (fun (hf : FitT t) w' (h : Sta w P w') => h.call fP (Q := fun e => e = .returned (.tuple #[.string (bs (tell t)), .bool true])) (argument_any (pieceOf t) (tell t) (by have := hf.len; omega) (by have := hf.tlen; omega) hf.read w'.heap.size w' h.tabs (Nat.le_refl _)))
  obtain ⟨x1, hx1⟩ : ∃ x : List UInt8, x = (95 :: 82 :: 78 :: 118 :: 77 :: pieceOf p) := ⟨_, rfl⟩
  have ex1 : (⟨#[95, 82, 78, 118, 77]⟩ : ByteArray) ++ bs (pieceOf p) = bs x1 := by
    rw [hx1, show (⟨#[95, 82, 78, 118, 77]⟩ : ByteArray) = bs [95, 82, 78, 118, 77] from rfl, bs_append] <;> first | rfl | simp
  obtain ⟨x2, hx2⟩ : ∃ x : List UInt8, x = (95 :: 82 :: 78 :: 118 :: 77 :: (pieceOf p ++ pieceOf t)) := ⟨_, rfl⟩
  have ex2 : bs x1 ++ bs (pieceOf t) = bs x2 := by
    rw [hx2, hx1, bs_append] <;> first | rfl | simp
  obtain ⟨x3, hx3⟩ : ∃ x : List UInt8, x = (95 :: 82 :: 78 :: 118 :: 77 :: (pieceOf p ++ (pieceOf t ++ [49, 102]))) := ⟨_, rfl⟩
  have ex3 : bs x2 ++ (⟨#[49, 102]⟩ : ByteArray) = bs x3 := by
    rw [hx3, hx2, show (⟨#[49, 102]⟩ : ByteArray) = bs [49, 102] from rfl, bs_append] <;> first | rfl | simp
  obtain ⟨y1, hy1⟩ : ∃ x : List UInt8, x = (60 :: tell t) := ⟨_, rfl⟩
  have ey1 : (⟨#[60]⟩ : ByteArray) ++ bs (tell t) = bs y1 := by
    rw [hy1, show (⟨#[60]⟩ : ByteArray) = bs [60] from rfl, bs_append] <;> first | rfl | simp
  obtain ⟨y2, hy2⟩ : ∃ x : List UInt8, x = (60 :: (tell t ++ [62, 58, 58, 102])) := ⟨_, rfl⟩
  have ey2 : bs y1 ++ (⟨#[62, 58, 58, 102]⟩ : ByteArray) = bs y2 := by
    rw [hy2, hy1, show (⟨#[62, 58, 58, 102]⟩ : ByteArray) = bs [62, 58, 58, 102] from rfl, bs_append] <;> first | rfl | simp
  have HS := Lib.hid (fun (hp : FitP p) (hf : FitT t) w' (h : Sta w P w') => h.call fP (Q := fun e => e = .returned (.bool true)) (rustSays_any x3 y2 (by rw [hx3, hy2]; exact read_method hp hf) w'.heap.size w' h.tabs (Nat.le_refl _)))
  have HL := Lib.hid (fun (hp : FitP p) (hf : FitT t) => (⟨hp.fit.len, hf.len, hf.tlen⟩ : (pieceOf p).length ≤ 330000 ∧ (pieceOf t).length ≤ 330000 ∧ (tell t).length ≤ 360000))
  have HOV : Hid ((pieceOf p).length ≤ 330000 → (pieceOf t).length ≤ 330000 → (tell t).length ≤ 360000 → ¬ 9223372036854775807 < 5 + (pieceOf p).length ∧ ¬ 9223372036854775807 < x1.length + (pieceOf t).length ∧ ¬ 9223372036854775807 < x2.length + 2 ∧ ¬ 9223372036854775807 < 1 + (tell t).length ∧ ¬ 9223372036854775807 < y1.length + 4) := Lib.hid (fun g1 g2 g3 => by
    have ox1 : ¬ 9223372036854775807 < 5 + (pieceOf p).length := by omega
    have ox2 : ¬ 9223372036854775807 < x1.length + (pieceOf t).length := by rw [hx1]; simp; omega
    have ox3 : ¬ 9223372036854775807 < x2.length + 2 := by rw [hx2]; simp; omega
    have oy1 : ¬ 9223372036854775807 < 1 + (tell t).length := by omega
    have oy2 : ¬ 9223372036854775807 < y1.length + 4 := by rw [hy1]; simp; omega
    exact ⟨ox1, ox2, ox3, oy1, oy2⟩)
  clear hS hC1 hC2 hR1 hR2 fP ht hB hT hP hM hx1 hx2 hx3 hy1 hy2
  go_enter Tryz.func7, Tryz.ntmps7
  go_wp2_with fail
  refine (HZ1.out _ S0.out).mono ?_
  rintro e w1 ⟨bl, rfl, h1⟩
  obtain ⟨⟨a0, a1, a2, a3, a4, a5⟩, b0, b1, b2, b3, b4, b5⟩ := CL.out _ h1
  have S1 := Lib.hid h1
  clear h1
  cases bl with
  | false =>
    go_wp2
    go_ret
    exact ⟨rfl, S1.out.below⟩
  | true =>
    go_wp2_with fail
    refine (HZ2.out _ S1.out).mono ?_
    rintro e w2 ⟨bl, rfl, h2⟩
    obtain ⟨⟨a0, a1, a2, a3, a4, a5⟩, b0, b1, b2, b3, b4, b5⟩ := CL.out _ h2
    have S2 := Lib.hid h2
    clear h2
    cases bl with
    | false =>
      go_wp2
      go_ret
      exact ⟨rfl, S2.out.below⟩
    | true =>
      go_wp2_with fail
      refine (HF1.out _ S2.out).mono ?_
      rintro e w3 ⟨bl, rfl, hq, h3⟩
      obtain ⟨⟨a0, a1, a2, a3, a4, a5⟩, b0, b1, b2, b3, b4, b5⟩ := CL.out _ h3
      have S3 := Lib.hid h3
      clear h3
      cases bl with
      | false =>
        clear hq
        go_wp2
        go_ret
        exact ⟨rfl, S3.out.below⟩
      | true =>
        have FP := Lib.hid (hq rfl)
        clear hq
        go_wp2_with fail
        refine (HF2.out _ S3.out).mono ?_
        rintro e w4 ⟨bl, rfl, hq, h4⟩
        obtain ⟨⟨a0, a1, a2, a3, a4, a5⟩, b0, b1, b2, b3, b4, b5⟩ := CL.out _ h4
        have S4 := Lib.hid h4
        clear h4
        cases bl with
        | false =>
          clear hq
          go_wp2
          go_ret
          exact ⟨rfl, S4.out.below⟩
        | true =>
          have FT := Lib.hid (hq rfl)
          clear hq
          obtain ⟨g1, g2, g3⟩ := HL.out FP.out FT.out
          obtain ⟨ox1, ox2, ox3, oy1, oy2⟩ := HOV.out g1 g2 g3
          go_wp2_with fail
          refine ((HP2.out FT.out) _ S4.out).mono ?_
          rintro e w5 ⟨rfl, h5⟩
          obtain ⟨⟨a0, a1, a2, a3, a4, a5⟩, b0, b1, b2, b3, b4, b5⟩ := CL.out _ h5
          have S5 := Lib.hid h5
          clear h5
          go_wp2_with fail
          refine ((HA.out FT.out) _ S5.out).mono ?_
          rintro e w6 ⟨rfl, h6⟩
          obtain ⟨⟨a0, a1, a2, a3, a4, a5⟩, b0, b1, b2, b3, b4, b5⟩ := CL.out _ h6
          have S6 := Lib.hid h6
          clear h6
          have UU := S6.out
          have HQ1 := Lib.hid (HP1.out FP.out)
          have HQ2 := Lib.hid (HP2.out FT.out)
          have HQ3 := Lib.hid (HS.out FP.out FT.out)
          clear HZ1 HZ2 HF1 HF2 HP1 HP2 HA HS HL HOV FP FT g1 g2 g3 S0 S1 S2 S3 S4 S5 S6
          go_wp2_with fail
          go_region_held3 (fun w' => w'.cell? ⟨w.heap.size, 0, none⟩ = some (.int .i64 kd) ∧ w'.cell? ⟨w.heap.size, 1, none⟩ = some (.int .u8 c.toNat) ∧ w'.cell? ⟨w.heap.size, 2, none⟩ = some (.string (bs nm)) ∧ w'.cell? ⟨w.heap.size, 3, none⟩ = some (.int .u64 n) ∧ w'.cell? ⟨w.heap.size, 4, none⟩ = some (.bool fl) ∧ w'.cell? ⟨w.heap.size, 5, none⟩ = some (.slice a m cap) ∧ w'.cell? ⟨w.heap.size + 1, 0, none⟩ = some (.int .i64 kd2) ∧ w'.cell? ⟨w.heap.size + 1, 1, none⟩ = some (.int .u8 c2.toNat) ∧ w'.cell? ⟨w.heap.size + 1, 2, none⟩ = some (.string (bs nm2)) ∧ w'.cell? ⟨w.heap.size + 1, 3, none⟩ = some (.int .u64 n2) ∧ w'.cell? ⟨w.heap.size + 1, 4, none⟩ = some (.bool fl2) ∧ w'.cell? ⟨w.heap.size + 1, 5, none⟩ = some (.slice aq mq capq)) (first | exact CF.out _ (by assumption) | exact CF.out _ (HDR.out _ (by assumption)))
            (first
              | (go_at_call_of 24 (bs nm); refine (HQ1.out _ ?_).mono ?_; (first | assumption | exact HDR.out _ (by assumption)); rintro e w9 ⟨rfl, UU⟩)
              | (go_at_call_of 24 (bs nm2); refine (HQ2.out _ ?_).mono ?_; (first | assumption | exact HDR.out _ (by assumption)); rintro e w9 ⟨rfl, UU⟩)
              | (go_at_call 16; refine (HQ3.out _ ?_).mono ?_; (first | assumption | exact HDR.out _ (by assumption)); rintro e w9 ⟨rfl, UU⟩))
          all_goals go_wp2
          all_goals go_ret
          all_goals exact ⟨rfl, Sta.below (by assumption)⟩
end Go.Proofs.YtaeiclgdhchneaaGreatDoor

/- The law on arrays. -/
namespace Go.Proofs.YtaeiclgdhchneaaGreatDoor
open Go.RowKit

/-- A number, as RustPiece writes it. -/
def numPiece (n : Nat) : List UInt8 := 106 :: (h16 n ++ [95])
theorem read_arr {t : RT} (hf : FitT t) (n : Nat) (hn : n < 18446744073709551616) : ReadAs (nameOf (65 :: (pieceOf t ++ numPiece n))) (toldOf (91 :: (tell t ++ ([59, 32] ++ (Lib.decDigits n ++ [93]))))) := by
  have hln := hf.tlen
  have hl := hf.len
  have hh := h16_len n 15 (by omega)
  have hd := decDigits_le 19 n (by omega)
  have hc : Says 115 #[] 0 false (numPiece n ++ [69]) [69] (Lib.decDigits n) T0 := by
    have := const_num 0 false 106 n 2 false (.inr (.inl ⟨rfl, by unfold isUn; decide, rfl⟩)) hn [69] (Lib.decDigits n) (by simp [negText, constText])
    simpa [numPiece, negCode] using this
  refine read_type 65 (pieceOf t ++ numPiece n) _ ?_ (by decide) (by decide) (by decide) ?_ (by simp [numPiece]; omega) (by simp; omega)
  · rw [List.append_assoc]
    exact type_A 0 false _ _ [69] (tell t) (Lib.decDigits n) _ NS T0 (hf.type (numPiece n ++ [69])) hc rfl
  · intro x hx
    simp only [List.mem_cons, List.mem_append] at hx
    rcases hx with rfl | hx | hx
    · decide
    · exact hf.no46 x hx
    · simp only [numPiece, List.mem_cons, List.mem_append, List.not_mem_nil, or_false] at hx
      rcases hx with rfl | hx | rfl
      · decide
      · have := h16_is n x hx
        intro e; subst e
        unfold is16 at this
        revert this; decide
      · decide

set_option maxHeartbeats 4000000 in
set_option maxRecDepth 100000 in
theorem law_array {M : Nat} (t : RT) (n1 : Nat) (hn1 : n1 < 18446744073709551616) (hM : M ≤ 2147483647) (cs : Array Value) (B : Nat) (w : World) (ht : Tabs B w) (hB : B ≤ w.heap.size) (hT : TreeAt M B w cs t) :
    Calls Tryz.prog 13 #[.agg cs, .int .u64 n1] w fun e w' => e = .returned (.bool true) ∧ Below w.heap.size w w' := by
  obtain ⟨kd, c, nm, n, fl, a, m, cap, rfl, _, _⟩ := hT.inv
  obtain ⟨P, fP, hS, hC, hR⟩ : ∃ P : World → Prop, Firm P ∧ Sta w P (w.alloc (.cells (rv kd c nm n fl (.slice a m cap)) tRu)) ∧ (∀ w', P w' → Blk w.heap.size (rv kd c nm n fl (.slice a m cap)) tRu w') ∧ (∀ w', P w' → TreeAt M w'.heap.size w' (rv kd c nm n fl (.slice a m cap)) t) :=
    ⟨_, firm_and (firm_tre M (rv kd c nm n fl (.slice a m cap)) t) (firm_blk _ _ _), (Sta.start ht hB ⟨B, hB, hT⟩ : Sta w (Tre M (rv kd c nm n fl (.slice a m cap)) t) w).alloc (firm_tre _ _ _) (rv kd c nm n fl (.slice a m cap)) tRu, fun _ h => h.2, fun _ h => h.1.at⟩
  have CL := Lib.hid (fun w' (h : Sta w P w') => (hC w' h.keep).cells)
  have S0 := Lib.hid hS
  have HC0 := Lib.hid hC
  have HR0 := Lib.hid hR
  have HN1 := Lib.hid hn1
  have hh := h16_len n1 15 (by omega)
  have hd := decDigits_le 19 n1 (by omega)
  have hnp : (numPiece n1).length ≤ 20 := by simp [numPiece]; omega
  have HZ := Lib.hid (fun w' (h : Sta w P w') => (fits2_any kd c nm n fl a m cap w').mono (R' := fun e w'' => ∃ bl : Bool, e = .returned (.bool bl) ∧ Sta w P w'') fun _ _ ⟨bl, e, b⟩ => ⟨bl, e, h.step fP b⟩)
  have HF := Lib.hid (fun w' (h : Sta w P w') => h.callB fP (fitsType_any t kd c nm n fl (.slice a m cap) hM w'.heap.size w' h.tabs (Nat.le_refl _) (hR w' h.keep)))
  have HP := Lib.hid (fun (hf : FitT t) w' (h : Sta w P w') => h.call fP (Q := fun e => e = .returned (.string (bs (pieceOf t)))) (piece_text t (by omega : 0 ≤ 20) hf.rt hf.kd hf.sz kd c nm n fl (.slice a m cap) w'.heap.size w' h.tabs (Nat.le_refl _) (hR w' h.keep)))
  have HA := Lib.hid (fun (hf : FitT t) w' (h : Sta w P w') => h.call fP (Q := fun e => e = .returned (.tuple #[.string (bs (tell t)), .bool true])) (argument_any (pieceOf t) (tell t) (by have := hf.len; omega) (by have := hf.tlen; omega) hf.read w'.heap.size w' h.tabs (Nat.le_refl _)))
  have HL := Lib.hid (fun (hf : FitT t) => (⟨hf.len, hf.tlen⟩ : (pieceOf t).length ≤ 330000 ∧ (tell t).length ≤ 360000))
  obtain ⟨x1, hx1⟩ : ∃ x : List UInt8, x = (65 :: pieceOf t) := ⟨_, rfl⟩
  have ex1 : (⟨#[65]⟩ : ByteArray) ++ bs (pieceOf t) = bs x1 := by
    rw [hx1, show (⟨#[65]⟩ : ByteArray) = bs [65] from rfl, bs_append] <;> first | rfl | simp
  obtain ⟨x2, hx2⟩ : ∃ x : List UInt8, x = (65 :: (pieceOf t ++ numPiece n1)) := ⟨_, rfl⟩
  have ex2 : bs x1 ++ bs (numPiece n1) = bs x2 := by
    rw [hx2, hx1, bs_append] <;> first | rfl | simp
  obtain ⟨y1, hy1⟩ : ∃ x : List UInt8, x = (91 :: tell t) := ⟨_, rfl⟩
  have ey1 : (⟨#[91]⟩ : ByteArray) ++ bs (tell t) = bs y1 := by
    rw [hy1, show (⟨#[91]⟩ : ByteArray) = bs [91] from rfl, bs_append] <;> first | rfl | simp
  obtain ⟨y2, hy2⟩ : ∃ x : List UInt8, x = (91 :: (tell t ++ [59, 32])) := ⟨_, rfl⟩
  have ey2 : bs y1 ++ (⟨#[59, 32]⟩ : ByteArray) = bs y2 := by
    rw [hy2, hy1, show (⟨#[59, 32]⟩ : ByteArray) = bs [59, 32] from rfl, bs_append] <;> first | rfl | simp
  obtain ⟨y3, hy3⟩ : ∃ x : List UInt8, x = (91 :: (tell t ++ (59 :: 32 :: Lib.decDigits n1))) := ⟨_, rfl⟩
  have ey3 : bs y2 ++ bs (Lib.decDigits n1) = bs y3 := by
    rw [hy3, hy2, bs_append] <;> first | rfl | simp
  obtain ⟨y4, hy4⟩ : ∃ x : List UInt8, x = (91 :: (tell t ++ (59 :: 32 :: (Lib.decDigits n1 ++ [93])))) := ⟨_, rfl⟩
  have ey4 : bs y3 ++ (⟨#[93]⟩ : ByteArray) = bs y4 := by
    rw [hy4, hy3, show (⟨#[93]⟩ : ByteArray) = bs [93] from rfl, bs_append] <;> first | rfl | simp
  have HRD : Hid (FitT t → ReadAs (nameOf x2) (toldOf y4)) := Lib.hid (fun hf => by
    rw [hx2, hy4]
    have := read_arr hf n1 hn1
    simpa using this)
  have HXL : Hid (FitT t → x2.length ≤ 10000000 ∧ y4.length ≤ 100000000) := Lib.hid (fun hf => by
    have g1 := hf.len
    have g2 := hf.tlen
    rw [hx2, hy4]
    refine ⟨by simp only [List.length_cons, List.length_append]; omega, by simp only [List.length_cons, List.length_append, List.length_nil]; omega⟩)
  have HOV : Hid ((pieceOf t).length ≤ 330000 → (tell t).length ≤ 360000 → ¬ 9223372036854775807 < 1 + (pieceOf t).length ∧ ¬ 9223372036854775807 < x1.length + (numPiece n1).length ∧ ¬ 9223372036854775807 < 1 + (tell t).length ∧ ¬ 9223372036854775807 < y1.length + 2 ∧ ¬ 9223372036854775807 < y2.length + (Lib.decDigits n1).length ∧ ¬ 9223372036854775807 < y3.length + 1) := Lib.hid (fun g1 g2 => by
    have ox1 : ¬ 9223372036854775807 < 1 + (pieceOf t).length := by omega
    have ox2 : ¬ 9223372036854775807 < x1.length + (numPiece n1).length := by rw [hx1]; simp only [List.length_cons]; omega
    have oy1 : ¬ 9223372036854775807 < 1 + (tell t).length := by omega
    have oy2 : ¬ 9223372036854775807 < y1.length + 2 := by rw [hy1]; simp; omega
    have oy3 : ¬ 9223372036854775807 < y2.length + (Lib.decDigits n1).length := by rw [hy2]; simp; omega
    have oy4 : ¬ 9223372036854775807 < y3.length + 1 := by rw [hy3]; simp; omega
    exact ⟨ox1, ox2, oy1, oy2, oy3, oy4⟩)
  clear hS hC hR ht hB hT hx1 hx2 hy1 hy2 hy3 hy4 hn1 hh hd hnp
  go_enter Tryz.func13, Tryz.ntmps13
  go_wp2_with fail
  refine (HZ.out _ S0.out).mono ?_
  rintro e w1 ⟨bl, rfl, h1⟩
  obtain ⟨a0, a1, a2, a3, a4, a5⟩ := CL.out _ h1
  have S1 := Lib.hid h1
  clear h1
  cases bl with
  | false =>
    go_wp2
    go_ret
    exact ⟨rfl, S1.out.below⟩
  | true =>
    go_wp2_with fail
    refine (HF.out _ S1.out).mono ?_
    rintro e w2 ⟨bl, rfl, hq, h2⟩
    obtain ⟨a0, a1, a2, a3, a4, a5⟩ := CL.out _ h2
    have S2 := Lib.hid h2
    clear h2
    cases bl with
    | false =>
      clear hq
      go_wp2
      go_ret
      exact ⟨rfl, S2.out.below⟩
    | true =>
      have FT := Lib.hid (hq rfl)
      clear hq
      obtain ⟨g1, g2⟩ := HL.out FT.out
      obtain ⟨ox1, ox2, oy1, oy2, oy3, oy4⟩ := HOV.out g1 g2
      go_wp2_with fail
      refine ((HP.out FT.out) _ S2.out).mono ?_
      rintro e w3 ⟨rfl, h3⟩
      obtain ⟨a0, a1, a2, a3, a4, a5⟩ := CL.out _ h3
      have S3 := Lib.hid h3
      clear h3
      go_wp2_with fail
      refine ((HA.out FT.out) _ S3.out).mono ?_
      rintro e w4 ⟨rfl, h4⟩
      obtain ⟨a0, a1, a2, a3, a4, a5⟩ := CL.out _ h4
      have S4 := Lib.hid h4
      clear h4
      obtain ⟨P2, fP2, hS2, hC2, hD2, hR2⟩ : ∃ P2 : World → Prop, Firm P2 ∧ Sta w P2 (w4.alloc (.cells #[.int .i64 20, .int .u8 106, .string ⟨#[]⟩, .int .u64 n1, .bool false, .slice none 0 0] tRu)) ∧ (∀ w', P2 w' → Blk w.heap.size (rv kd c nm n fl (.slice a m cap)) tRu w') ∧ (∀ w', P2 w' → Blk w4.heap.size (rv 20 106 [] n1 false (.slice none 0 0)) tRu w') ∧ (∀ w', P2 w' → TreeAt M w'.heap.size w' (rv kd c nm n fl (.slice a m cap)) t) := by
        have s1 := S4.out.alloc fP (rv 20 106 [] n1 false (.slice none 0 0)) tRu
        exact ⟨_, firm_and fP (firm_blk _ _ _), s1, fun w' h => HC0.out w' h.1, fun w' h => h.2, fun w' h => HR0.out w' h.1⟩
      have CF : Hid (∀ w', Sta w P2 w' → (fun w' => w'.cell? ⟨w.heap.size, 0, none⟩ = some (.int .i64 kd) ∧ w'.cell? ⟨w.heap.size, 1, none⟩ = some (.int .u8 c.toNat) ∧ w'.cell? ⟨w.heap.size, 2, none⟩ = some (.string (bs nm)) ∧ w'.cell? ⟨w.heap.size, 3, none⟩ = some (.int .u64 n) ∧ w'.cell? ⟨w.heap.size, 4, none⟩ = some (.bool fl) ∧ w'.cell? ⟨w.heap.size, 5, none⟩ = some (.slice a m cap) ∧ w'.cell? ⟨w4.heap.size, 0, none⟩ = some (.int .i64 20) ∧ w'.cell? ⟨w4.heap.size, 1, none⟩ = some (.int .u8 (106 : UInt8).toNat) ∧ w'.cell? ⟨w4.heap.size, 2, none⟩ = some (.string (bs [])) ∧ w'.cell? ⟨w4.heap.size, 3, none⟩ = some (.int .u64 n1) ∧ w'.cell? ⟨w4.heap.size, 4, none⟩ = some (.bool false) ∧ w'.cell? ⟨w4.heap.size, 5, none⟩ = some (.slice none 0 0)) w') := Lib.hid (fun w' h => by
        obtain ⟨a0, a1, a2, a3, a4, a5⟩ := (hC2 w' h.keep).cells
        obtain ⟨b0, b1, b2, b3, b4, b5⟩ := (hD2 w' h.keep).cells
        exact ⟨a0, a1, a2, a3, a4, a5, b0, b1, b2, b3, b4, b5⟩)
      have HDR := Lib.hid (fun w' (h : Sta w P2 w') => h.drew fP2)
      have HQ1 := Lib.hid (fun w' (h : Sta w P2 w') => h.call fP2 (Q := fun e => e = .returned (.string (bs (pieceOf t)))) (piece_text t (by omega : 0 ≤ 20) FT.out.rt FT.out.kd FT.out.sz kd c nm n fl (.slice a m cap) w'.heap.size w' h.tabs (Nat.le_refl _) (hR2 w' h.keep)))
      have HQ2 := Lib.hid (fun w' (h : Sta w P2 w') => h.call fP2 (Q := fun e => e = .returned (.string (bs (numPiece n1)))) (rustPiece_num 106 [] n1 false (.slice none 0 0) HN1.out w'.heap.size w' h.tabs (Nat.le_refl _)))
      have HQ3 := Lib.hid (fun w' (h : Sta w P2 w') => h.call fP2 (Q := fun e => e = .returned (.string (bs (Lib.decDigits n1)))) (decimal_text n1 HN1.out w'))
      have HQ4 := Lib.hid (fun w' (h : Sta w P2 w') => h.call fP2 (Q := fun e => e = .returned (.bool true)) (argumentIs_any x2 y4 (HXL.out FT.out).1 (HXL.out FT.out).2 (HRD.out FT.out) w'.heap.size w' h.tabs (Nat.le_refl _)))
      have U0 := Lib.hid hS2
      have UU := U0.out
      clear hC2 hD2 hR2 hS2 fP2 HZ HF HP HA HL HOV HC0 HR0 HRD HXL FT CL a0 a1 a2 a3 a4 a5 S0 S1 S2 S3 S4
      go_wp2_with fail
      go_region_held3 (fun w' => w'.cell? ⟨w.heap.size, 0, none⟩ = some (.int .i64 kd) ∧ w'.cell? ⟨w.heap.size, 1, none⟩ = some (.int .u8 c.toNat) ∧ w'.cell? ⟨w.heap.size, 2, none⟩ = some (.string (bs nm)) ∧ w'.cell? ⟨w.heap.size, 3, none⟩ = some (.int .u64 n) ∧ w'.cell? ⟨w.heap.size, 4, none⟩ = some (.bool fl) ∧ w'.cell? ⟨w.heap.size, 5, none⟩ = some (.slice a m cap) ∧ w'.cell? ⟨w4.heap.size, 0, none⟩ = some (.int .i64 20) ∧ w'.cell? ⟨w4.heap.size, 1, none⟩ = some (.int .u8 (106 : UInt8).toNat) ∧ w'.cell? ⟨w4.heap.size, 2, none⟩ = some (.string (bs [])) ∧ w'.cell? ⟨w4.heap.size, 3, none⟩ = some (.int .u64 n1) ∧ w'.cell? ⟨w4.heap.size, 4, none⟩ = some (.bool false) ∧ w'.cell? ⟨w4.heap.size, 5, none⟩ = some (.slice none 0 0)) (first | exact CF.out _ (by assumption) | exact CF.out _ (HDR.out _ (by assumption)))
        (first
          | (go_at_call_of 24 (bs nm); refine (HQ1.out _ ?_).mono ?_; (first | assumption | exact HDR.out _ (by assumption)); rintro e w9 ⟨rfl, UU⟩)
          | (go_at_call_of 24 (bs []); refine (HQ2.out _ ?_).mono ?_; (first | assumption | exact HDR.out _ (by assumption)); rintro e w9 ⟨rfl, UU⟩)
          | (go_at_call 21; refine (HQ3.out _ ?_).mono ?_; (first | assumption | exact HDR.out _ (by assumption)); rintro e w9 ⟨rfl, UU⟩)
          | (go_at_call 27; refine (HQ4.out _ ?_).mono ?_; (first | assumption | exact HDR.out _ (by assumption)); rintro e w9 ⟨rfl, UU⟩))
      all_goals go_wp2
      all_goals go_ret
      all_goals exact ⟨rfl, Sta.below (by assumption)⟩
end Go.Proofs.YtaeiclgdhchneaaGreatDoor

