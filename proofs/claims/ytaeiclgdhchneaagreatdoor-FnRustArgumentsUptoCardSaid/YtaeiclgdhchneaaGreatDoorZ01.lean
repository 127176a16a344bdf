/- The law on the disambiguator of a crate. -/
import Derived.Test.YtaeiclgdhchneaaGreatDoorY32
import Derived.Test.YtaeiclgdhchneaaGreatDoorY31
import Derived.Test.YtaeiclgdhchneaaGreatDoorY21
namespace Go.Proofs.YtaeiclgdhchneaaGreatDoor
open Go.RowKit

set_option maxHeartbeats 4000000 in
set_option maxRecDepth 100000 in
theorem law_mark (nm : List UInt8) (n : Nat) (hn : n < 18446744073709551616) (_hl : nm.length ≤ maxLen) (B : Nat) (w : World) (ht : Tabs B w) (hB : B ≤ w.heap.size) :
    Calls Tryz.prog 3 #[.string (bs nm), .int .u64 n] w fun e w' => e = .returned (.bool true) ∧ Below w.heap.size w w' := by
  by_cases h1 : nm.length ≤ 2147483647
  · obtain ⟨P, fP, hS, hC⟩ : ∃ P : World → Prop, Firm P ∧ Sta w P (w.alloc (.cells #[.int .i64 1, .int .u8 0, .string (bs nm), .int .u64 n, .bool false, .slice none 0 0] tRu)) ∧ (∀ w', P w' → Blk w.heap.size (rv 1 0 nm n false (.slice none 0 0)) tRu w') :=
      ⟨_, firm_and (fun _ _ _ _ => trivial) (firm_blk _ _ _), (Sta.start ht hB trivial : Sta w (fun _ => True) w).alloc (fun _ _ _ _ => trivial) (rv 1 0 nm n false (.slice none 0 0)) tRu, fun _ h => h.2⟩
    have CL := Lib.hid (fun w' (h : Sta w P w') => (hC w' h.keep).cells)
    have S0 := Lib.hid hS
    have HT := Lib.hid (fun (w' : World) => (tree_leaf 1 0 nm n false hn h1 : TreeAt 2147483647 w'.heap.size w' (rv 1 0 nm n false (.slice none 0 0)) (.mk 1 0 nm n false [])))
    have HF := Lib.hid (fun w' (h : Sta w P w') => h.callB fP (rustFits_any (.mk 1 0 nm n false []) 1 0 nm n false (.slice none 0 0) (Nat.le_refl _) w'.heap.size w' h.tabs (Nat.le_refl _) (HT.out w')))
    have HN := Lib.hid (fun (hf : FitP (.mk 1 0 nm n false [])) w' (h : Sta w P w') => h.call fP (Q := fun e => e = .returned (.string (bs (95 :: 82 :: enc idW (.mk 1 0 nm n false []))))) (name_text (.mk 1 0 nm n false []) (by omega : 0 ≤ 20) hf.fit.rt hf.fit.kd hf.fit.sz 1 0 nm n false (.slice none 0 0) w'.heap.size w' h.tabs (Nat.le_refl _) (HT.out w')))
    have e0 : tellP (.mk 1 0 nm n false []) = nm := by simp [tellP, txt]
    have HS := Lib.hid (fun (hf : FitP (.mk 1 0 nm n false [])) w' (h : Sta w P w') => h.call fP (Q := fun e => e = .returned (.bool true)) (rustSays_any _ nm (e0 ▸ hf.readP) w'.heap.size w' h.tabs (Nat.le_refl _)))
    clear hS hC fP ht hB HT e0
    go_enter Tryz.func3, Tryz.ntmps3
    go_wp2_with fail
    refine (HF.out _ S0.out).mono ?_
    rintro e w1 ⟨bl, rfl, hq, h1⟩
    obtain ⟨a0, a1, a2, a3, a4, a5⟩ := CL.out _ h1
    have S1 := Lib.hid h1
    clear h1
    cases bl with
    | false =>
      clear hq
      go_wp2
      go_ret
      exact ⟨rfl, S1.out.below⟩
    | true =>
      have FT := Lib.hid (hq rfl)
      clear hq
      go_wp2_with fail
      refine (HN.out FT.out _ S1.out).mono ?_
      rintro e w2 ⟨rfl, h2⟩
      obtain ⟨a0, a1, a2, a3, a4, a5⟩ := CL.out _ h2
      have S2 := Lib.hid h2
      clear h2
      go_wp2_with fail
      refine (HS.out FT.out _ S2.out).mono ?_
      rintro e w3 ⟨rfl, h3⟩
      obtain ⟨a0, a1, a2, a3, a4, a5⟩ := CL.out _ h3
      have S3 := Lib.hid h3
      clear h3
      go_wp2
      go_ret
      exact ⟨rfl, S3.out.below⟩
  · go_enter Tryz.func3, Tryz.ntmps3
    go_wp2
    go_ret
    exact ⟨rfl, Below.refl _ _⟩
end Go.Proofs.YtaeiclgdhchneaaGreatDoor

/- The law on names in a path. -/
namespace Go.Proofs.YtaeiclgdhchneaaGreatDoor
open Go.RowKit

set_option maxHeartbeats 4000000 in
set_option maxRecDepth 100000 in
theorem law_nested {M : Nat} (t : RT) (hM : M ≤ 2147483647) (c1 : UInt8) (n1 : Nat) (hn1 : n1 < 18446744073709551616) (nm1 : List UInt8) (_hl1 : nm1.length ≤ maxLen) (cs : Array Value) (B : Nat) (w : World) (ht : Tabs B w) (hB : B ≤ w.heap.size) (hT : TreeAt M B w cs t) :
    Calls Tryz.prog 4 #[.agg cs, .int .u8 c1.toNat, .int .u64 n1, .string (bs nm1)] w fun e w' => e = .returned (.bool true) ∧ Below w.heap.size w w' := by
  obtain ⟨kd, c, nm, n, fl, a, m, cap, rfl, _, _⟩ := hT.inv
  have hT' := hT.grow hM
  obtain ⟨P, fP, hS, hC, hR⟩ : ∃ P : World → Prop, Firm P ∧ Sta w P (w.alloc (.cells (rv kd c nm n fl (.slice a m cap)) tRu)) ∧ (∀ w', P w' → Blk w.heap.size (rv kd c nm n fl (.slice a m cap)) tRu w') ∧ (∀ w', P w' → TreeAt 2147483647 w'.heap.size w' (rv kd c nm n fl (.slice a m cap)) t) :=
    ⟨_, firm_and (firm_tre 2147483647 (rv kd c nm n fl (.slice a m cap)) t) (firm_blk _ _ _), (Sta.start ht hB ⟨B, hB, hT'⟩ : Sta w (Tre 2147483647 (rv kd c nm n fl (.slice a m cap)) t) w).alloc (firm_tre _ _ _) (rv kd c nm n fl (.slice a m cap)) tRu, fun _ h => h.2, fun _ h => h.1.at⟩
  have CL := Lib.hid (fun w' (h : Sta w P w') => (hC w' h.keep).cells)
  have S0 := Lib.hid hS
  have HC0 := Lib.hid hC
  have HR0 := Lib.hid hR
  have HZ := Lib.hid (fun w' (h : Sta w P w') => (fits2_any kd c nm n fl a m cap w').mono (R' := fun e w'' => ∃ bl : Bool, e = .returned (.bool bl) ∧ Sta w P w'') fun _ _ ⟨bl, e, b⟩ => ⟨bl, e, h.step fP b⟩)
  clear hS hC hR ht hB hT hT'
  by_cases h1 : nm1.length ≤ 2147483647
  · go_enter Tryz.func4, Tryz.ntmps4
    go_wp2_with fail
    refine (HZ.out _ S0.out).mono ?_
    rintro e w1 ⟨bl, rfl, h1⟩
    obtain ⟨a0, a1, a2, a3, a4, a5⟩ := CL.out _ h1
    have S1 := Lib.hid h1
    clear h1
    cases bl with
    | false =>
      go_wp2
      go_ret
      exact ⟨rfl, S1.out.below⟩
    | true =>
      obtain ⟨P2, fP2, hS2, hC2, hD2, hR2, hT2⟩ : ∃ P2 : World → Prop, Firm P2 ∧ Sta w P2 ((w1.alloc (.cells (rv kd c nm n fl (.slice a m cap)) tRu)).alloc (.cells #[.int .i64 5, .int .u8 c1.toNat, .string (bs nm1), .int .u64 n1, .bool false, .slice (some ⟨w1.heap.size, 0, none⟩) 1 1] tRu)) ∧ (∀ w', P2 w' → Blk w.heap.size (rv kd c nm n fl (.slice a m cap)) tRu w') ∧ (∀ w', P2 w' → Blk (w1.heap.size + 1) (rv 5 c1 nm1 n1 false (.slice (some ⟨w1.heap.size, 0, none⟩) 1 1)) tRu w') ∧ (∀ w', P2 w' → TreeAt 2147483647 w'.heap.size w' (rv kd c nm n fl (.slice a m cap)) t) ∧ (∀ w', P2 w' → TreeAt 2147483647 w'.heap.size w' (rv 5 c1 nm1 n1 false (.slice (some ⟨w1.heap.size, 0, none⟩) 1 1)) (.mk 5 c1 nm1 n1 false [t])) := by
        have s1 := S1.out.alloc fP (rv kd c nm n fl (.slice a m cap)) tRu
        have s2 := s1.alloc (firm_and fP (firm_blk _ _ _)) (rv 5 c1 nm1 n1 false (.slice (some ⟨w1.heap.size, 0, none⟩) 1 1)) tRu
        refine ⟨_, firm_and (firm_and fP (firm_blk _ _ _)) (firm_blk _ _ _), s2, fun w' h => HC0.out w' h.1.1, fun w' h => by simpa using h.2, fun w' h => HR0.out w' h.1.1, fun w' h => ?_⟩
        exact tree_one ⟨_, Nat.le_refl _, HR0.out w' h.1.1⟩ h.1.2 5 c1 nm1 n1 false hn1 h1 (by omega)
      clear CL HZ
      have CL := Lib.hid (fun w' (h : Sta w P2 w') => (⟨(hC2 w' h.keep).cells, (hD2 w' h.keep).cells⟩ : _ ∧ _))
      have S2 := Lib.hid hS2
      have HF := Lib.hid (fun w' (h : Sta w P2 w') => h.callB fP2 (rustFits_any (.mk 5 c1 nm1 n1 false [t]) 5 c1 nm1 n1 false (.slice (some ⟨w1.heap.size, 0, none⟩) 1 1) (Nat.le_refl _) w'.heap.size w' h.tabs (Nat.le_refl _) (hT2 w' h.keep)))
      have HR := Lib.hid (fun (hf : FitP (.mk 5 c1 nm1 n1 false [t])) w' (h : Sta w P2 w') => h.callB fP2 (roomy_any t hf.nested.1 hf.nested.2.1 hf.nested.2.2.1 kd c nm n fl (.slice a m cap) w'.heap.size w' h.tabs (Nat.le_refl _) (hR2 w' h.keep)))
      have HN := Lib.hid (fun (hf : FitP t) w' (h : Sta w P2 w') => h.call fP2 (Q := fun e => e = .returned (.string (bs (95 :: 82 :: enc idW t)))) (name_text t (by omega : 0 ≤ 20) hf.fit.rt hf.fit.kd hf.fit.sz kd c nm n fl (.slice a m cap) w'.heap.size w' h.tabs (Nat.le_refl _) (hR2 w' h.keep)))
      have HO := Lib.hid (fun (hf : FitP t) w' (h : Sta w P2 w') => h.call fP2 (Q := fun e => e = .returned (.tuple #[.string (bs (tellP t)), .bool true])) (rustTold_any _ (tellP t) hf.readP w'.heap.size w' h.tabs (Nat.le_refl _)))
      have HN2 := Lib.hid (fun (hf : FitP (.mk 5 c1 nm1 n1 false [t])) w' (h : Sta w P2 w') => h.call fP2 (Q := fun e => e = .returned (.string (bs (95 :: 82 :: enc idW (.mk 5 c1 nm1 n1 false [t]))))) (name_text (.mk 5 c1 nm1 n1 false [t]) (by omega : 0 ≤ 20) hf.fit.rt hf.fit.kd hf.fit.sz 5 c1 nm1 n1 false (.slice (some ⟨w1.heap.size, 0, none⟩) 1 1) w'.heap.size w' h.tabs (Nat.le_refl _) (hT2 w' h.keep)))
      have HLN : Hid (FitP t → (tellP t).length ≤ 360000) := Lib.hid (fun hf => hf.tlenP (.p true))
      have HSY := Lib.hid (fun (hf : FitP (.mk 5 c1 nm1 n1 false [t])) (txt : List UInt8) (h0 : tellP (.mk 5 c1 nm1 n1 false [t]) = txt) w' (h : Sta w P2 w') => h.call fP2 (Q := fun e => e = .returned (.bool true)) (rustSays_any _ txt (h0 ▸ hf.readP) w'.heap.size w' h.tabs (Nat.le_refl _)))
      have HDE := Lib.hid (fun w' (h : Sta w P2 w') => h.call fP2 (Q := fun e => e = .returned (.string (bs (Lib.decDigits n1)))) (decimal_text n1 hn1 w'))
      clear hS2 hC2 hD2 hR2 hT2 fP2
      go_wp2_with fail
      refine (HF.out _ S2.out).mono ?_
      rintro e w3 ⟨bl, rfl, hq, h3⟩
      obtain ⟨⟨a0, a1, a2, a3, a4, a5⟩, b0, b1, b2, b3, b4, b5⟩ := CL.out _ h3
      have S3 := Lib.hid h3
      clear h3
      cases bl with
      | false =>
        clear hq
        go_wp2
        go_ret
        exact ⟨rfl, S3.out.below⟩
      | true =>
        have FT := Lib.hid (hq rfl)
        clear hq
        go_wp2_with fail
        refine ((HR.out FT.out) _ S3.out).mono ?_
        rintro e w4 ⟨bl, rfl, hq, h4⟩
        obtain ⟨⟨a0, a1, a2, a3, a4, a5⟩, b0, b1, b2, b3, b4, b5⟩ := CL.out _ h4
        have S4 := Lib.hid h4
        clear h4
        cases bl with
        | false =>
          clear hq
          go_wp2
          go_ret
          exact ⟨rfl, S4.out.below⟩
        | true =>
          have FP := Lib.hid (hq rfl)
          clear hq
          have g1 := HLN.out FP.out
          by_cases hc67 : c1.toNat = 67
          · have hd : ((c1.toNat : Int) == 67) = true := by rw [hc67]; decide
            go_wp2
            go_ret
            exact ⟨rfl, S4.out.below⟩
          have hd67 : ((c1.toNat : Int) == 67) = false := by rw [beq_eq_false_iff_ne]; omega
          by_cases hc83 : c1.toNat = 83
          · have hd : ((c1.toNat : Int) == 83) = true := by rw [hc83]; decide
            go_wp2
            go_ret
            exact ⟨rfl, S4.out.below⟩
          have hd83 : ((c1.toNat : Int) == 83) = false := by rw [beq_eq_false_iff_ne]; omega
          have e1 : bs (tellP t) ++ (⟨#[58, 58]⟩ : ByteArray) = bs (tellP t ++ [58, 58]) := by
            rw [show (⟨#[58, 58]⟩ : ByteArray) = bs [58, 58] from rfl, bs_append] <;> first | rfl | simp
          have e2 : bs (tellP t ++ [58, 58]) ++ bs (nm1) = bs (tellP t ++ (58 :: 58 :: nm1)) := by
            rw [bs_append] <;> first | rfl | simp
          have e0 : tellP (.mk 5 c1 nm1 n1 false [t]) = (tellP t ++ (58 :: 58 :: nm1)) := by
            rw [tellP_nested]
            unfold nestText
            rw [if_neg (by rintro (rfl | rfl); exact hc67 rfl; exact hc83 rfl)]
            rfl
          go_wp2_with fail
          refine (HN.out FP.out _ S4.out).mono ?_
          rintro e w5 ⟨rfl, h5⟩
          obtain ⟨⟨a0, a1, a2, a3, a4, a5⟩, b0, b1, b2, b3, b4, b5⟩ := CL.out _ h5
          have S5 := Lib.hid h5
          clear h5
          go_wp2_with fail
          refine (HO.out FP.out _ S5.out).mono ?_
          rintro e w6 ⟨rfl, h6⟩
          obtain ⟨⟨a0, a1, a2, a3, a4, a5⟩, b0, b1, b2, b3, b4, b5⟩ := CL.out _ h6
          have S6 := Lib.hid h6
          clear h6
          go_wp2_with fail
          refine (HN2.out FT.out _ S6.out).mono ?_
          rintro e w7 ⟨rfl, h7⟩
          obtain ⟨⟨a0, a1, a2, a3, a4, a5⟩, b0, b1, b2, b3, b4, b5⟩ := CL.out _ h7
          have S7 := Lib.hid h7
          clear h7
          go_wp2_with fail
          refine (HSY.out FT.out _ e0 _ S7.out).mono ?_
          rintro e w8 ⟨rfl, h8⟩
          obtain ⟨⟨a0, a1, a2, a3, a4, a5⟩, b0, b1, b2, b3, b4, b5⟩ := CL.out _ h8
          have S8 := Lib.hid h8
          clear h8
          go_wp2
          go_ret
          exact ⟨rfl, S8.out.below⟩
  · go_enter Tryz.func4, Tryz.ntmps4
    go_wp2_with fail
    refine (HZ.out _ S0.out).mono ?_
    rintro e w1 ⟨bl, rfl, h1⟩
    cases bl with
    | false =>
      go_wp2
      go_ret
      exact ⟨rfl, h1.below⟩
    | true =>
      go_wp2
      go_ret
      exact ⟨rfl, h1.below⟩
end Go.Proofs.YtaeiclgdhchneaaGreatDoor

/- The law on tuples. -/
namespace Go.Proofs.YtaeiclgdhchneaaGreatDoor
open Go.RowKit

set_option maxHeartbeats 4000000 in
set_option maxRecDepth 100000 in
theorem law_tuple {M B m cap : Nat} {a : Option Addr} {V : Nat → Array Value} {ts : List RT} (hM : M ≤ 2147483647) (w : World) (ht : Tabs B w) (hB : B ≤ w.heap.size) (hL : ListAt M B w a m cap V ts) :
    Calls Tryz.prog 8 #[.slice a m cap] w fun e w' => e = .returned (.bool true) ∧ Below w.heap.size w w' := by
  have hm := hL.le
  have hlen := hL.len
  have hmx : m ≤ 2147483647 := by omega
  obtain ⟨P, fP, hS, hC⟩ : ∃ P : World → Prop, Firm P ∧ Sta w P w ∧ (∀ w', P w' → Lis M a m cap V ts w') := ⟨_, firm_lis M a m cap V ts, Sta.start ht hB ⟨B, hB, hL⟩, fun _ h => h⟩
  have S0 := Lib.hid hS
  have HF := Lib.hid (fun w' (h : Sta w P w') => h.callB fP (types_any hM w' h.tabs (Nat.le_refl _) (hC w' h.keep).at))
  have HL := Lib.hid (fun (hf : (∀ t ∈ ts, FitT t) ∧ ts.length ≤ 8) w' (h : Sta w P w') => h.call fP (Q := fun e => e = .returned (.tuple #[.string (bs (joined [44, 32] (tells ts))), .bool true])) (listed_any w' h.tabs (Nat.le_refl _) (hC w' h.keep).at hf.1 hf.2))
  have HP := Lib.hid (fun (hf : (∀ t ∈ ts, FitT t) ∧ ts.length ≤ 8) w' (h : Sta w P w') => h.call fP (Q := fun e => e = .returned (.string (bs (pieces ts)))) (pieces_any w' h.tabs (Nat.le_refl _) (hC w' h.keep).at hf.1 hf.2))
  have HX := Lib.hid (fun (hf : (∀ t ∈ ts, FitT t) ∧ ts.length ≤ 8) => (⟨by have := pieces_len ts hf.1; have := hf.2; omega, by have := tells_joined ts hf.1; have := hf.2; omega⟩ : (pieces ts).length ≤ 2640000 ∧ (joined [44, 32] (tells ts)).length ≤ 2880016))
  have HI := Lib.hid (fun (hf : (∀ t ∈ ts, FitT t) ∧ ts.length ≤ 8) (h1 : ts.length ≠ 1) w' (h : Sta w P w') => h.call fP (Q := fun e => e = .returned (.bool true)) (argumentIs_any (84 :: (pieces ts ++ [69])) (40 :: (joined [44, 32] (tells ts) ++ [41])) (by have := (HX.out hf).1; simp; omega) (by have := (HX.out hf).2; simp; omega) (read_tuple ts hf.1 hf.2 h1) w'.heap.size w' h.tabs (Nat.le_refl _)))
  have ea1 : (⟨#[84]⟩ : ByteArray) ++ bs (pieces ts) = bs (84 :: pieces ts) := by
    rw [show (⟨#[84]⟩ : ByteArray) = bs [84] from rfl, bs_append] <;> first | rfl | simp
  have ea2 : bs (84 :: pieces ts) ++ (⟨#[69]⟩ : ByteArray) = bs (84 :: (pieces ts ++ [69])) := by
    rw [show (⟨#[69]⟩ : ByteArray) = bs [69] from rfl, bs_append] <;> first | rfl | simp
  have eb1 : (⟨#[40]⟩ : ByteArray) ++ bs (joined [44, 32] (tells ts)) = bs (40 :: joined [44, 32] (tells ts)) := by
    rw [show (⟨#[40]⟩ : ByteArray) = bs [40] from rfl, bs_append] <;> first | rfl | simp
  have eb2 : bs (40 :: joined [44, 32] (tells ts)) ++ (⟨#[41]⟩ : ByteArray) = bs (40 :: (joined [44, 32] (tells ts) ++ [41])) := by
    rw [show (⟨#[41]⟩ : ByteArray) = bs [41] from rfl, bs_append] <;> first | rfl | simp
  clear hS hC fP ht hB hL hM
  go_enter Tryz.func8, Tryz.ntmps8
  go_wp2_with fail
  refine (HF.out _ S0.out).mono ?_
  rintro e w1 ⟨bl, rfl, hq, h1⟩
  have S1 := Lib.hid h1
  clear h1
  cases bl with
  | false =>
    clear hq
    go_wp2
    go_ret
    exact ⟨rfl, S1.out.below⟩
  | true =>
    have FT := Lib.hid (hq rfl)
    clear hq
    obtain ⟨g1, g2⟩ := HX.out FT.out
    by_cases hq1 : m = 1
    · subst hq1
      go_wp2
      go_ret
      exact ⟨rfl, S1.out.below⟩
    have dq : decide ((m : Int) = 1) = false := by simp; omega
    go_wp2_with fail
    refine (HL.out FT.out _ S1.out).mono ?_
    rintro e w2 ⟨rfl, h2⟩
    have S2 := Lib.hid h2
    clear h2
    go_wp2_with fail
    refine (HP.out FT.out _ S2.out).mono ?_
    rintro e w3 ⟨rfl, h3⟩
    have S3 := Lib.hid h3
    clear h3
    go_wp2_with fail
    refine (HI.out FT.out (by omega) _ S3.out).mono ?_
    rintro e w4 ⟨rfl, h4⟩
    have S4 := Lib.hid h4
    clear h4
    go_wp2
    go_ret
    exact ⟨rfl, S4.out.below⟩
end Go.Proofs.YtaeiclgdhchneaaGreatDoor

/- The law on generic arguments. -/
namespace Go.Proofs.YtaeiclgdhchneaaGreatDoor
open Go.RowKit

set_option maxHeartbeats 4000000 in
set_option maxRecDepth 100000 in
theorem law_arguments {M B m cap : Nat} {a : Option Addr} {V : Nat → Array Value} {ts : List RT} (hM : M ≤ 2147483647) (w : World) (ht : Tabs B w) (hB : B ≤ w.heap.size) (hL : ListAt M B w a m cap V ts) :
    Calls Tryz.prog 9 #[.slice a m cap] w fun e w' => e = .returned (.bool true) ∧ Below w.heap.size w w' := by
  have hm := hL.le
  have hlen := hL.len
  have hmx : m ≤ 2147483647 := by omega
  obtain ⟨P, fP, hS, hC⟩ : ∃ P : World → Prop, Firm P ∧ Sta w P w ∧ (∀ w', P w' → Lis M a m cap V ts w') := ⟨_, firm_lis M a m cap V ts, Sta.start ht hB ⟨B, hB, hL⟩, fun _ h => h⟩
  have S0 := Lib.hid hS
  have HF := Lib.hid (fun w' (h : Sta w P w') => h.callB fP (types_any hM w' h.tabs (Nat.le_refl _) (hC w' h.keep).at))
  have HL := Lib.hid (fun (hf : (∀ t ∈ ts, FitT t) ∧ ts.length ≤ 8) w' (h : Sta w P w') => h.call fP (Q := fun e => e = .returned (.tuple #[.string (bs (joined [44, 32] (tells ts))), .bool true])) (listed_any w' h.tabs (Nat.le_refl _) (hC w' h.keep).at hf.1 hf.2))
  have HP := Lib.hid (fun (hf : (∀ t ∈ ts, FitT t) ∧ ts.length ≤ 8) w' (h : Sta w P w') => h.call fP (Q := fun e => e = .returned (.string (bs (pieces ts)))) (pieces_any w' h.tabs (Nat.le_refl _) (hC w' h.keep).at hf.1 hf.2))
  have HX := Lib.hid (fun (hf : (∀ t ∈ ts, FitT t) ∧ ts.length ≤ 8) => (⟨by have := pieces_len ts hf.1; have := hf.2; omega, by have := tells_joined ts hf.1; have := hf.2; omega⟩ : (pieces ts).length ≤ 2640000 ∧ (joined [44, 32] (tells ts)).length ≤ 2880016))
  have HI := Lib.hid (fun (hf : (∀ t ∈ ts, FitT t) ∧ ts.length ≤ 8) (h1 : ts.length ≠ 0) w' (h : Sta w P w') => h.call fP (Q := fun e => e = .returned (.bool true)) (argumentIs_any (pieces ts) (joined [44, 32] (tells ts)) (by have := (HX.out hf).1; simp; omega) (by have := (HX.out hf).2; simp; omega) (read_arguments ts hf.1 hf.2) w'.heap.size w' h.tabs (Nat.le_refl _)))

  clear hS hC fP ht hB hL hM
  go_enter Tryz.func9, Tryz.ntmps9
  go_wp2_with fail
  refine (HF.out _ S0.out).mono ?_
  rintro e w1 ⟨bl, rfl, hq, h1⟩
  have S1 := Lib.hid h1
  clear h1
  cases bl with
  | false =>
    clear hq
    go_wp2
    go_ret
    exact ⟨rfl, S1.out.below⟩
  | true =>
    have FT := Lib.hid (hq rfl)
    clear hq
    obtain ⟨g1, g2⟩ := HX.out FT.out
    by_cases hq1 : m = 0
    · subst hq1
      go_wp2
      go_ret
      exact ⟨rfl, S1.out.below⟩
    have dq : decide ((m : Int) = 0) = false := by simp; omega
    go_wp2_with fail
    refine (HL.out FT.out _ S1.out).mono ?_
    rintro e w2 ⟨rfl, h2⟩
    have S2 := Lib.hid h2
    clear h2
    go_wp2_with fail
    refine (HP.out FT.out _ S2.out).mono ?_
    rintro e w3 ⟨rfl, h3⟩
    have S3 := Lib.hid h3
    clear h3
    go_wp2_with fail
    refine (HI.out FT.out (by omega) _ S3.out).mono ?_
    rintro e w4 ⟨rfl, h4⟩
    have S4 := Lib.hid h4
    clear h4
    go_wp2
    go_ret
    exact ⟨rfl, S4.out.below⟩
end Go.Proofs.YtaeiclgdhchneaaGreatDoor

/- The law on types of unsafe functions, and of those of C. -/
namespace Go.Proofs.YtaeiclgdhchneaaGreatDoor
open Go.RowKit

theorem read_unsafe0 {t : RT} (hf : FitT t) : ReadAs (nameOf (70 :: 85 :: (pieceOf t ++ [69, 117]))) (toldOf (117 :: 110 :: 115 :: 97 :: 102 :: 101 :: 32 :: 102 :: 110 :: 40 :: (tell t ++ [41]))) := by
  have := read_sig [85] (by simp) [t] (by simp; exact hf) (by simp) [117] [] (Res.u [69]) (by decide) (by simp) (by simp)
  simpa [pieces, tells, joined, tailText, sigText] using this
theorem read_unsafe1 {t : RT} (hf : FitT t) : ReadAs (nameOf (70 :: 75 :: 67 :: (pieceOf t ++ [69, 117]))) (toldOf (101 :: 120 :: 116 :: 101 :: 114 :: 110 :: 32 :: 34 :: 67 :: 34 :: 32 :: 102 :: 110 :: 40 :: (tell t ++ [41]))) := by
  have := read_sig [75, 67] (by simp) [t] (by simp; exact hf) (by simp) [117] [] (Res.u [69]) (by decide) (by simp) (by simp)
  simpa [pieces, tells, joined, tailText, sigText] using this
theorem read_unsafe2 {t : RT} (hf : FitT t) : ReadAs (nameOf (70 :: 85 :: 75 :: 67 :: (pieceOf t ++ [69, 117]))) (toldOf (117 :: 110 :: 115 :: 97 :: 102 :: 101 :: 32 :: 101 :: 120 :: 116 :: 101 :: 114 :: 110 :: 32 :: 34 :: 67 :: 34 :: 32 :: 102 :: 110 :: 40 :: (tell t ++ [41]))) := by
  have := read_sig [85, 75, 67] (by simp) [t] (by simp; exact hf) (by simp) [117] [] (Res.u [69]) (by decide) (by simp) (by simp)
  simpa [pieces, tells, joined, tailText, sigText] using this

set_option maxHeartbeats 4000000 in
set_option maxRecDepth 100000 in
theorem law_unsafe {M : Nat} (t : RT) (hM : M ≤ 2147483647) (cs : Array Value) (B : Nat) (w : World) (ht : Tabs B w) (hB : B ≤ w.heap.size) (hT : TreeAt M B w cs t) :
    Calls Tryz.prog 10 #[.agg cs] w fun e w' => e = .returned (.bool true) ∧ Below w.heap.size w w' := by
  obtain ⟨kd, c, nm, n, fl, a, m, cap, rfl, _, _⟩ := hT.inv
  obtain ⟨P, fP, hS, hC, hR⟩ : ∃ P : World → Prop, Firm P ∧ Sta w P (w.alloc (.cells (rv kd c nm n fl (.slice a m cap)) tRu)) ∧ (∀ w', P w' → Blk w.heap.size (rv kd c nm n fl (.slice a m cap)) tRu w') ∧ (∀ w', P w' → TreeAt M w'.heap.size w' (rv kd c nm n fl (.slice a m cap)) t) :=
    ⟨_, firm_and (firm_tre M (rv kd c nm n fl (.slice a m cap)) t) (firm_blk _ _ _), (Sta.start ht hB ⟨B, hB, hT⟩ : Sta w (Tre M (rv kd c nm n fl (.slice a m cap)) t) w).alloc (firm_tre _ _ _) (rv kd c nm n fl (.slice a m cap)) tRu, fun _ h => h.2, fun _ h => h.1.at⟩
  have CL := Lib.hid (fun w' (h : Sta w P w') => (hC w' h.keep).cells)
  have S0 := Lib.hid hS
  have HZ := Lib.hid (fun w' (h : Sta w P w') => (fits2_any kd c nm n fl a m cap w').mono (R' := fun e w'' => ∃ bl : Bool, e = .returned (.bool bl) ∧ Sta w P w'') fun _ _ ⟨bl, e, b⟩ => ⟨bl, e, h.step fP b⟩)
  have HF := Lib.hid (fun w' (h : Sta w P w') => h.callB fP (fitsType_any t kd c nm n fl (.slice a m cap) hM w'.heap.size w' h.tabs (Nat.le_refl _) (hR w' h.keep)))
  have HP := Lib.hid (fun (hf : FitT t) w' (h : Sta w P w') => h.call fP (Q := fun e => e = .returned (.string (bs (pieceOf t)))) (piece_text t (by omega : 0 ≤ 20) hf.rt hf.kd hf.sz kd c nm n fl (.slice a m cap) w'.heap.size w' h.tabs (Nat.le_refl _) (hR w' h.keep)))
  have HA := Lib.hid (fun (hf : FitT t) w' (h : Sta w P w') => h.call fP (Q := fun e => e = .returned (.tuple #[.string (bs (tell t)), .bool true])) (argument_any (pieceOf t) (tell t) (by have := hf.len; omega) (by have := hf.tlen; omega) hf.read w'.heap.size w' h.tabs (Nat.le_refl _)))
  have HL := Lib.hid (fun (hf : FitT t) => (⟨hf.len, hf.tlen⟩ : (pieceOf t).length ≤ 330000 ∧ (tell t).length ≤ 360000))
  have HI0 := Lib.hid (fun (hf : FitT t) w' (h : Sta w P w') => h.call fP (Q := fun e => e = .returned (.bool true)) (argumentIs_any (70 :: 85 :: (pieceOf t ++ [69, 117])) (117 :: 110 :: 115 :: 97 :: 102 :: 101 :: 32 :: 102 :: 110 :: 40 :: (tell t ++ [41])) (by have := hf.len; simp; omega) (by have := hf.tlen; simp; omega) (read_unsafe0 hf) w'.heap.size w' h.tabs (Nat.le_refl _)))
  have HI1 := Lib.hid (fun (hf : FitT t) w' (h : Sta w P w') => h.call fP (Q := fun e => e = .returned (.bool true)) (argumentIs_any (70 :: 75 :: 67 :: (pieceOf t ++ [69, 117])) (101 :: 120 :: 116 :: 101 :: 114 :: 110 :: 32 :: 34 :: 67 :: 34 :: 32 :: 102 :: 110 :: 40 :: (tell t ++ [41])) (by have := hf.len; simp; omega) (by have := hf.tlen; simp; omega) (read_unsafe1 hf) w'.heap.size w' h.tabs (Nat.le_refl _)))
  have HI2 := Lib.hid (fun (hf : FitT t) w' (h : Sta w P w') => h.call fP (Q := fun e => e = .returned (.bool true)) (argumentIs_any (70 :: 85 :: 75 :: 67 :: (pieceOf t ++ [69, 117])) (117 :: 110 :: 115 :: 97 :: 102 :: 101 :: 32 :: 101 :: 120 :: 116 :: 101 :: 114 :: 110 :: 32 :: 34 :: 67 :: 34 :: 32 :: 102 :: 110 :: 40 :: (tell t ++ [41])) (by have := hf.len; simp; omega) (by have := hf.tlen; simp; omega) (read_unsafe2 hf) w'.heap.size w' h.tabs (Nat.le_refl _)))
  have ea01 : (⟨#[70, 85]⟩ : ByteArray) ++ bs (pieceOf t) = bs (70 :: 85 :: pieceOf t) := by
    rw [show (⟨#[70, 85]⟩ : ByteArray) = bs [70, 85] from rfl, bs_append]
    first | rfl | simp
  have ea02 : bs (70 :: 85 :: pieceOf t) ++ (⟨#[69, 117]⟩ : ByteArray) = bs (70 :: 85 :: (pieceOf t ++ [69, 117])) := by
    rw [show (⟨#[69, 117]⟩ : ByteArray) = bs [69, 117] from rfl, bs_append]
    first | rfl | simp
  have eb01 : (⟨#[117, 110, 115, 97, 102, 101, 32, 102, 110, 40]⟩ : ByteArray) ++ bs (tell t) = bs (117 :: 110 :: 115 :: 97 :: 102 :: 101 :: 32 :: 102 :: 110 :: 40 :: tell t) := by
    rw [show (⟨#[117, 110, 115, 97, 102, 101, 32, 102, 110, 40]⟩ : ByteArray) = bs [117, 110, 115, 97, 102, 101, 32, 102, 110, 40] from rfl, bs_append]
    first | rfl | simp
  have eb02 : bs (117 :: 110 :: 115 :: 97 :: 102 :: 101 :: 32 :: 102 :: 110 :: 40 :: tell t) ++ (⟨#[41]⟩ : ByteArray) = bs (117 :: 110 :: 115 :: 97 :: 102 :: 101 :: 32 :: 102 :: 110 :: 40 :: (tell t ++ [41])) := by
    rw [show (⟨#[41]⟩ : ByteArray) = bs [41] from rfl, bs_append]
    first | rfl | simp
  have ea11 : (⟨#[70, 75, 67]⟩ : ByteArray) ++ bs (pieceOf t) = bs (70 :: 75 :: 67 :: pieceOf t) := by
    rw [show (⟨#[70, 75, 67]⟩ : ByteArray) = bs [70, 75, 67] from rfl, bs_append]
    first | rfl | simp
  have ea12 : bs (70 :: 75 :: 67 :: pieceOf t) ++ (⟨#[69, 117]⟩ : ByteArray) = bs (70 :: 75 :: 67 :: (pieceOf t ++ [69, 117])) := by
    rw [show (⟨#[69, 117]⟩ : ByteArray) = bs [69, 117] from rfl, bs_append]
    first | rfl | simp
  have eb11 : (⟨#[101, 120, 116, 101, 114, 110, 32, 34, 67, 34, 32, 102, 110, 40]⟩ : ByteArray) ++ bs (tell t) = bs (101 :: 120 :: 116 :: 101 :: 114 :: 110 :: 32 :: 34 :: 67 :: 34 :: 32 :: 102 :: 110 :: 40 :: tell t) := by
    rw [show (⟨#[101, 120, 116, 101, 114, 110, 32, 34, 67, 34, 32, 102, 110, 40]⟩ : ByteArray) = bs [101, 120, 116, 101, 114, 110, 32, 34, 67, 34, 32, 102, 110, 40] from rfl, bs_append]
    first | rfl | simp
  have eb12 : bs (101 :: 120 :: 116 :: 101 :: 114 :: 110 :: 32 :: 34 :: 67 :: 34 :: 32 :: 102 :: 110 :: 40 :: tell t) ++ (⟨#[41]⟩ : ByteArray) = bs (101 :: 120 :: 116 :: 101 :: 114 :: 110 :: 32 :: 34 :: 67 :: 34 :: 32 :: 102 :: 110 :: 40 :: (tell t ++ [41])) := by
    rw [show (⟨#[41]⟩ : ByteArray) = bs [41] from rfl, bs_append]
    first | rfl | simp
  have ea21 : (⟨#[70, 85, 75, 67]⟩ : ByteArray) ++ bs (pieceOf t) = bs (70 :: 85 :: 75 :: 67 :: pieceOf t) := by
    rw [show (⟨#[70, 85, 75, 67]⟩ : ByteArray) = bs [70, 85, 75, 67] from rfl, bs_append]
    first | rfl | simp
  have ea22 : bs (70 :: 85 :: 75 :: 67 :: pieceOf t) ++ (⟨#[69, 117]⟩ : ByteArray) = bs (70 :: 85 :: 75 :: 67 :: (pieceOf t ++ [69, 117])) := by
    rw [show (⟨#[69, 117]⟩ : ByteArray) = bs [69, 117] from rfl, bs_append]
    first | rfl | simp
  have eb21 : (⟨#[117, 110, 115, 97, 102, 101, 32, 101, 120, 116, 101, 114, 110, 32, 34, 67, 34, 32, 102, 110, 40]⟩ : ByteArray) ++ bs (tell t) = bs (117 :: 110 :: 115 :: 97 :: 102 :: 101 :: 32 :: 101 :: 120 :: 116 :: 101 :: 114 :: 110 :: 32 :: 34 :: 67 :: 34 :: 32 :: 102 :: 110 :: 40 :: tell t) := by
    rw [show (⟨#[117, 110, 115, 97, 102, 101, 32, 101, 120, 116, 101, 114, 110, 32, 34, 67, 34, 32, 102, 110, 40]⟩ : ByteArray) = bs [117, 110, 115, 97, 102, 101, 32, 101, 120, 116, 101, 114, 110, 32, 34, 67, 34, 32, 102, 110, 40] from rfl, bs_append]
    first | rfl | simp
  have eb22 : bs (117 :: 110 :: 115 :: 97 :: 102 :: 101 :: 32 :: 101 :: 120 :: 116 :: 101 :: 114 :: 110 :: 32 :: 34 :: 67 :: 34 :: 32 :: 102 :: 110 :: 40 :: tell t) ++ (⟨#[41]⟩ : ByteArray) = bs (117 :: 110 :: 115 :: 97 :: 102 :: 101 :: 32 :: 101 :: 120 :: 116 :: 101 :: 114 :: 110 :: 32 :: 34 :: 67 :: 34 :: 32 :: 102 :: 110 :: 40 :: (tell t ++ [41])) := by
    rw [show (⟨#[41]⟩ : ByteArray) = bs [41] from rfl, bs_append]
    first | rfl | simp
  clear hS hC hR fP ht hB hT hM
  go_enter Tryz.func10, Tryz.ntmps10
  go_wp2_with fail
  refine (HZ.out _ S0.out).mono ?_
  rintro e w1 ⟨bl, rfl, h1⟩
  obtain ⟨a0, a1, a2, a3, a4, a5⟩ := CL.out _ h1
  have S1 := Lib.hid h1
  clear h1
  cases bl with
  | false =>
    go_wp2
    go_ret
    exact ⟨rfl, S1.out.below⟩
  | true =>
    go_wp2_with fail
    refine (HF.out _ S1.out).mono ?_
    rintro e w2 ⟨bl, rfl, hq, h2⟩
    obtain ⟨a0, a1, a2, a3, a4, a5⟩ := CL.out _ h2
    have S2 := Lib.hid h2
    clear h2
    cases bl with
    | false =>
      clear hq
      go_wp2
      go_ret
      exact ⟨rfl, S2.out.below⟩
    | true =>
      have FT := Lib.hid (hq rfl)
      clear hq
      obtain ⟨g1, g2⟩ := HL.out FT.out
      go_wp2_with fail
      refine (HP.out FT.out _ S2.out).mono ?_
      rintro e w3 ⟨rfl, h3⟩
      obtain ⟨a0, a1, a2, a3, a4, a5⟩ := CL.out _ h3
      have S3 := Lib.hid h3
      clear h3
      go_wp2_with fail
      refine (HA.out FT.out _ S3.out).mono ?_
      rintro e w4 ⟨rfl, h4⟩
      obtain ⟨a0, a1, a2, a3, a4, a5⟩ := CL.out _ h4
      have S4 := Lib.hid h4
      clear h4
      go_wp2_with fail
      refine (HP.out FT.out _ S4.out).mono ?_
      rintro e w5 ⟨rfl, h5⟩
      obtain ⟨a0, a1, a2, a3, a4, a5⟩ := CL.out _ h5
      have S5 := Lib.hid h5
      clear h5
      go_wp2_with fail
      refine (HI0.out FT.out _ S5.out).mono ?_
      rintro e w6 ⟨rfl, h6⟩
      obtain ⟨a0, a1, a2, a3, a4, a5⟩ := CL.out _ h6
      have S6 := Lib.hid h6
      clear h6
      go_wp2_with fail
      refine (HI1.out FT.out _ S6.out).mono ?_
      rintro e w7 ⟨rfl, h7⟩
      obtain ⟨a0, a1, a2, a3, a4, a5⟩ := CL.out _ h7
      have S7 := Lib.hid h7
      clear h7
      go_wp2_with fail
      refine (HI2.out FT.out _ S7.out).mono ?_
      rintro e w8 ⟨rfl, h8⟩
      obtain ⟨a0, a1, a2, a3, a4, a5⟩ := CL.out _ h8
      have S8 := Lib.hid h8
      clear h8
      go_wp2
      go_ret
      exact ⟨rfl, S8.out.below⟩
end Go.Proofs.YtaeiclgdhchneaaGreatDoor

