/- The law on types of functions. -/
import Derived.Test.YtaeiclgdhchneaaGreatDoorY32
import Derived.Test.YtaeiclgdhchneaaGreatDoorY33
import Derived.Deep.RegionHeld3
namespace Go.Proofs.YtaeiclgdhchneaaGreatDoor
open Go.RowKit

theorem FitT.res {t : RT} (h : FitT t) (k : List UInt8) : Res 0 false (pieceOf t ++ k) k (if t.kd = 7 ∧ t.c = 117 then [] else [32, 45, 62, 32] ++ tell t) := by
  have hs : Sep (emp t) (if emp t then [95] else []) k := by
    unfold Sep
    split
    · exact .inl rfl
    · rfl
  have := res_all (lb := 0) (sk := false) (sp := if emp t then [95] else []) (k := k) t h.rt h.kd hs ((h.told k).type h.kd)
  rw [pieceOf_eq, List.append_assoc]
  exact this
theorem read_fn0 (ts : List RT) (h : ∀ t ∈ ts, FitT t) (h8 : ts.length ≤ 8) {r : RT} (hr : FitT r) (hu : r.kd = 7 ∧ r.c = 117) : ReadAs (nameOf (70 :: (pieces ts ++ (69 :: pieceOf r)))) (toldOf (102 :: 110 :: 40 :: (joined [44, 32] (tells ts) ++ [41]))) := by
  have h1 := hr.res [69]
  rw [if_pos hu] at h1
  have := read_sig [] (.inl rfl) ts h h8 (pieceOf r) [] h1 hr.no46 hr.len (by simp)
  simpa [sigText] using this
theorem read_fn1 (ts : List RT) (h : ∀ t ∈ ts, FitT t) (h8 : ts.length ≤ 8) {r : RT} (hr : FitT r) (hu : ¬ (r.kd = 7 ∧ r.c = 117)) : ReadAs (nameOf (70 :: (pieces ts ++ (69 :: pieceOf r)))) (toldOf (102 :: 110 :: 40 :: (joined [44, 32] (tells ts) ++ (41 :: 32 :: 45 :: 62 :: 32 :: tell r)))) := by
  have h1 := hr.res [69]
  rw [if_neg hu] at h1
  have := read_sig [] (.inl rfl) ts h h8 (pieceOf r) _ h1 hr.no46 hr.len (by have := hr.tlen; simp; omega)
  simpa [sigText] using this
theorem TreeAt.kids {M N : Nat} {w : World} {kd : Int} {c : UInt8} {nm : List UInt8} {n : Nat} {fl : Bool} {a : Option Addr} {m cap : Nat} {t : RT} (h : TreeAt M N w (rv kd c nm n fl (.slice a m cap)) t) : t.kd = kd ∧ t.ks.length = m := by
  generalize hv : rv kd c nm n fl (.slice a m cap) = v at h
  cases h with
  | mk kd2 c2 nm2 n2 fl2 a2 m2 cap2 V ks hn hk hc hnm hV hT =>
    simp only [rv, Array.mk.injEq, List.cons.injEq, Value.int.injEq, Value.slice.injEq, and_true, true_and] at hv
    exact ⟨hv.1.symm, by rw [show RT.ks (.mk kd2 c2 nm2 n2 fl2 ks) = ks from rfl, hk]; exact hv.2.2.2.2.2.2.1.symm⟩

set_option maxHeartbeats 40000000 in
set_option maxRecDepth 100000 in
theorem law_function {M B m0 cap0 : Nat} {a00 : Option Addr} {V : Nat → Array Value} {ts : List RT} (r : RT) (hM : M ≤ 2147483647) (cs : Array Value) (B2 : Nat) (w : World) (ht : Tabs B w) (hB : B ≤ w.heap.size) (hL : ListAt M B w a00 m0 cap0 V ts) (hR : TreeAt M B2 w cs r) (hB2 : B2 ≤ w.heap.size := by exact Nat.le_refl _) :
    Calls Tryz.prog 11 #[.slice a00 m0 cap0, .agg cs] w fun e w' => e = .returned (.bool true) ∧ Below w.heap.size w w' := by
  have hm := hL.le
  have hmx : m0 ≤ 2147483647 := by omega
  obtain ⟨kd, c, nm, n, fl, a, m, cap, rfl, _, _⟩ := hR.inv
  have HK := hR.kids
  obtain ⟨P, fP, hS, hC, hC1, hC2⟩ : ∃ P : World → Prop, Firm P ∧ Sta w P (w.alloc (.cells (rv kd c nm n fl (.slice a m cap)) tRu)) ∧ (∀ w', P w' → Lis M a00 m0 cap0 V ts w') ∧ (∀ w', P w' → Blk w.heap.size (rv kd c nm n fl (.slice a m cap)) tRu w') ∧ (∀ w', P w' → TreeAt M w'.heap.size w' (rv kd c nm n fl (.slice a m cap)) r) := by
    have s1 := (Sta.start ht hB ⟨⟨B, hB, hL⟩, ⟨B2, hB2, hR⟩⟩ : Sta w (fun w => Lis M a00 m0 cap0 V ts w ∧ Tre M (rv kd c nm n fl (.slice a m cap)) r w) w).alloc (firm_and (firm_lis _ _ _ _ _ _) (firm_tre _ _ _)) (rv kd c nm n fl (.slice a m cap)) tRu
    exact ⟨_, firm_and (firm_and (firm_lis _ _ _ _ _ _) (firm_tre _ _ _)) (firm_blk _ _ _), s1, fun _ h => h.1.1, fun _ h => h.2, fun _ h => h.1.2.at⟩
  have CL := Lib.hid (fun w' (h : Sta w P w') => (hC1 w' h.keep).cells)
  have CF : Hid (∀ w', Sta w P w' → (fun w' => w'.cell? ⟨w.heap.size, 0, none⟩ = some (.int .i64 kd) ∧ w'.cell? ⟨w.heap.size, 1, none⟩ = some (.int .u8 c.toNat) ∧ w'.cell? ⟨w.heap.size, 2, none⟩ = some (.string (bs nm)) ∧ w'.cell? ⟨w.heap.size, 3, none⟩ = some (.int .u64 n) ∧ w'.cell? ⟨w.heap.size, 4, none⟩ = some (.bool fl) ∧ w'.cell? ⟨w.heap.size, 5, none⟩ = some (.slice a m cap)) w') := Lib.hid (fun w' h => CL.out w' h)
  have S0 := Lib.hid hS
  have HDR := Lib.hid (fun w' (h : Sta w P w') => h.drew fP)
  have HZ := Lib.hid (fun w' (h : Sta w P w') => (fits2_any kd c nm n fl a m cap w').mono (R' := fun e w'' => ∃ bl : Bool, e = .returned (.bool bl) ∧ Sta w P w'') fun _ _ ⟨bl, e, b⟩ => ⟨bl, e, h.step fP b⟩)
  have HT := Lib.hid (fun w' (h : Sta w P w') => h.callB fP (types_any hM w' h.tabs (Nat.le_refl _) (hC w' h.keep).at))
  have HF := Lib.hid (fun w' (h : Sta w P w') => h.callB fP (fitsType_any r kd c nm n fl (.slice a m cap) hM w'.heap.size w' h.tabs (Nat.le_refl _) (hC2 w' h.keep)))
  have HL := Lib.hid (fun (hf : (∀ t ∈ ts, FitT t) ∧ ts.length ≤ 8) w' (h : Sta w P w') => h.call fP (Q := fun e => e = .returned (.tuple #[.string (bs (joined [44, 32] (tells ts))), .bool true])) (listed_any w' h.tabs (Nat.le_refl _) (hC w' h.keep).at hf.1 hf.2))
  have HP := Lib.hid (fun (hf : (∀ t ∈ ts, FitT t) ∧ ts.length ≤ 8) w' (h : Sta w P w') => h.call fP (Q := fun e => e = .returned (.string (bs (pieces ts)))) (pieces_any w' h.tabs (Nat.le_refl _) (hC w' h.keep).at hf.1 hf.2))
  have HR := Lib.hid (fun (hf : FitT r) w' (h : Sta w P w') => h.call fP (Q := fun e => e = .returned (.string (bs (pieceOf r)))) (piece_text r (by omega : 0 ≤ 20) hf.rt hf.kd hf.sz kd c nm n fl (.slice a m cap) w'.heap.size w' h.tabs (Nat.le_refl _) (hC2 w' h.keep)))
  have HA := Lib.hid (fun (hf : FitT r) w' (h : Sta w P w') => h.call fP (Q := fun e => e = .returned (.tuple #[.string (bs (tell r)), .bool true])) (argument_any (pieceOf r) (tell r) (by have := hf.len; omega) (by have := hf.tlen; omega) hf.read w'.heap.size w' h.tabs (Nat.le_refl _)))
  have HB := Lib.hid (fun (hf : (∀ t ∈ ts, FitT t) ∧ ts.length ≤ 8) (hr : FitT r) => (⟨by have := pieces_len ts hf.1; have := hf.2; omega, by have := tells_joined ts hf.1; have := hf.2; omega, hr.len, hr.tlen⟩ : (pieces ts).length ≤ 2640000 ∧ (joined [44, 32] (tells ts)).length ≤ 2880016 ∧ (pieceOf r).length ≤ 330000 ∧ (tell r).length ≤ 360000))
  have HU : Hid (r.kd = 7 ∧ r.c = 117 → ((bs (tell r)).toList == [40, 41]) = true) := Lib.hid (fun h => by rw [show tell r = [40, 41] from tell_u h .t 0, ByteArray.toList_eq]; rfl)
  have H10 : Hid (kd = 10 → ¬ (r.kd = 7 ∧ r.c = 117)) := Lib.hid (fun h h' => by have := HK.1; omega)
  have HV : Hid (FitT r → ¬ (r.kd = 7 ∧ r.c = 117) → ¬ (kd = 10 ∧ m = 0) → ((bs (tell r)).toList == [40, 41]) = false) := Lib.hid (fun hf h1 h2 => by
    rw [ByteArray.toList_eq, beq_eq_false_iff_ne]
    intro e
    have e2 : tell r = [40, 41] := by simpa [bs] using e
    rcases tell_unit hf.rt hf.kd e2 with h | ⟨h3, h4⟩
    · exact h1 h
    · exact h2 ⟨HK.1.symm.trans h3, by rw [← HK.2, h4]; rfl⟩)
  obtain ⟨x1, hx1⟩ : ∃ x : List UInt8, x = (70 :: pieces ts) := ⟨_, rfl⟩
  have ex1 : (⟨#[70]⟩ : ByteArray) ++ bs (pieces ts) = bs x1 := by
    rw [hx1, show (⟨#[70]⟩ : ByteArray) = bs [70] from rfl, bs_append] <;> first | rfl | simp
  obtain ⟨x2, hx2⟩ : ∃ x : List UInt8, x = (70 :: (pieces ts ++ [69])) := ⟨_, rfl⟩
  have ex2 : bs x1 ++ (⟨#[69]⟩ : ByteArray) = bs x2 := by
    rw [hx2, hx1, show (⟨#[69]⟩ : ByteArray) = bs [69] from rfl, bs_append] <;> first | rfl | simp
  obtain ⟨x3, hx3⟩ : ∃ x : List UInt8, x = (70 :: (pieces ts ++ (69 :: pieceOf r))) := ⟨_, rfl⟩
  have ex3 : bs x2 ++ bs (pieceOf r) = bs x3 := by
    rw [hx3, hx2, bs_append] <;> first | rfl | simp
  obtain ⟨z1, hz1⟩ : ∃ x : List UInt8, x = (102 :: 110 :: 40 :: joined [44, 32] (tells ts)) := ⟨_, rfl⟩
  have ez1 : (⟨#[102, 110, 40]⟩ : ByteArray) ++ bs (joined [44, 32] (tells ts)) = bs z1 := by
    rw [hz1, show (⟨#[102, 110, 40]⟩ : ByteArray) = bs [102, 110, 40] from rfl, bs_append] <;> first | rfl | simp
  obtain ⟨y2, hy2⟩ : ∃ x : List UInt8, x = (102 :: 110 :: 40 :: (joined [44, 32] (tells ts) ++ [41])) := ⟨_, rfl⟩
  have ey2 : bs z1 ++ (⟨#[41]⟩ : ByteArray) = bs y2 := by
    rw [hy2, hz1, show (⟨#[41]⟩ : ByteArray) = bs [41] from rfl, bs_append] <;> first | rfl | simp
  obtain ⟨z2, hz2⟩ : ∃ x : List UInt8, x = (102 :: 110 :: 40 :: (joined [44, 32] (tells ts) ++ [41, 32, 45, 62, 32])) := ⟨_, rfl⟩
  have ez2 : bs z1 ++ (⟨#[41, 32, 45, 62, 32]⟩ : ByteArray) = bs z2 := by
    rw [hz2, hz1, show (⟨#[41, 32, 45, 62, 32]⟩ : ByteArray) = bs [41, 32, 45, 62, 32] from rfl, bs_append] <;> first | rfl | simp
  obtain ⟨z3, hz3⟩ : ∃ x : List UInt8, x = (102 :: 110 :: 40 :: (joined [44, 32] (tells ts) ++ (41 :: 32 :: 45 :: 62 :: 32 :: tell r))) := ⟨_, rfl⟩
  have ez3 : bs z2 ++ bs (tell r) = bs z3 := by
    rw [hz3, hz2, bs_append] <;> first | rfl | simp
  have HI1 := Lib.hid (fun (hf : (∀ t ∈ ts, FitT t) ∧ ts.length ≤ 8) (hr : FitT r) (hu : r.kd = 7 ∧ r.c = 117) w' (h : Sta w P w') => h.call fP (Q := fun e => e = .returned (.bool true)) (argumentIs_any x3 y2 (by have g := HB.out hf hr; rw [hx3]; simp only [List.length_cons, List.length_append]; omega) (by have g := HB.out hf hr; rw [hy2]; simp only [List.length_cons, List.length_append, List.length_nil]; omega) (by rw [hx3, hy2]; exact read_fn0 ts hf.1 hf.2 hr hu) w'.heap.size w' h.tabs (Nat.le_refl _)))
  have HI2 := Lib.hid (fun (hf : (∀ t ∈ ts, FitT t) ∧ ts.length ≤ 8) (hr : FitT r) (hu : ¬ (r.kd = 7 ∧ r.c = 117)) w' (h : Sta w P w') => h.call fP (Q := fun e => e = .returned (.bool true)) (argumentIs_any x3 z3 (by have g := HB.out hf hr; rw [hx3]; simp only [List.length_cons, List.length_append]; omega) (by have g := HB.out hf hr; rw [hz3]; simp only [List.length_cons, List.length_append]; omega) (by rw [hx3, hz3]; exact read_fn1 ts hf.1 hf.2 hr hu) w'.heap.size w' h.tabs (Nat.le_refl _)))
  have HOV : Hid ((pieces ts).length ≤ 2640000 → (joined [44, 32] (tells ts)).length ≤ 2880016 → (pieceOf r).length ≤ 330000 → (tell r).length ≤ 360000 → ¬ 9223372036854775807 < 1 + (pieces ts).length ∧ ¬ 9223372036854775807 < x1.length + 1 ∧ ¬ 9223372036854775807 < x2.length + (pieceOf r).length ∧ ¬ 9223372036854775807 < z1.length + 1 ∧ ¬ 9223372036854775807 < 3 + (joined [44, 32] (tells ts)).length ∧ ¬ 9223372036854775807 < z1.length + 5 ∧ ¬ 9223372036854775807 < z2.length + (tell r).length) := Lib.hid (fun g1 g2 g3 g4 => by
    have ox1 : ¬ 9223372036854775807 < 1 + (pieces ts).length := by omega
    have ox2 : ¬ 9223372036854775807 < x1.length + 1 := by rw [hx1]; simp only [List.length_cons]; omega
    have ox3 : ¬ 9223372036854775807 < x2.length + (pieceOf r).length := by rw [hx2]; simp only [List.length_cons, List.length_append, List.length_nil]; omega
    have oy2 : ¬ 9223372036854775807 < z1.length + 1 := by rw [hz1]; simp only [List.length_cons]; omega
    have oz1 : ¬ 9223372036854775807 < 3 + (joined [44, 32] (tells ts)).length := by omega
    have oz2 : ¬ 9223372036854775807 < z1.length + 5 := by rw [hz1]; simp only [List.length_cons]; omega
    have oz3 : ¬ 9223372036854775807 < z2.length + (tell r).length := by rw [hz2]; simp only [List.length_cons, List.length_append, List.length_nil]; omega
    exact ⟨ox1, ox2, ox3, oy2, oz1, oz2, oz3⟩)
  clear hS hC hC1 hC2 fP ht hB hL hR hM hm HK hx1 hx2 hx3 hz1 hz2 hz3 hy2
  go_enter Tryz.func11, Tryz.ntmps11
  go_wp2_with fail
  refine (HZ.out _ S0.out).mono ?_
  rintro e w1 ⟨bl, rfl, h1⟩
  obtain ⟨a0, a1, a2, a3, a4, a5⟩ := CL.out _ h1
  have S1 := Lib.hid h1
  clear h1
  cases bl with
  | false =>
    go_wp2
    go_ret
    exact ⟨rfl, S1.out.below⟩
  | true =>
    go_wp2_with fail
    refine (HT.out _ S1.out).mono ?_
    rintro e w2 ⟨bl, rfl, hq, h2⟩
    obtain ⟨a0, a1, a2, a3, a4, a5⟩ := CL.out _ h2
    have S2 := Lib.hid h2
    clear h2
    cases bl with
    | false =>
      clear hq
      go_wp2
      go_ret
      exact ⟨rfl, S2.out.below⟩
    | true =>
      have FL := Lib.hid (hq rfl)
      clear hq
      go_wp2_with fail
      refine (HF.out _ S2.out).mono ?_
      rintro e w3 ⟨bl, rfl, hq, h3⟩
      obtain ⟨a0, a1, a2, a3, a4, a5⟩ := CL.out _ h3
      have S3 := Lib.hid h3
      clear h3
      cases bl with
      | false =>
        clear hq
        go_wp2
        go_ret
        exact ⟨rfl, S3.out.below⟩
      | true =>
        have FT := Lib.hid (hq rfl)
        clear hq
        obtain ⟨g1, g2, g3, g4⟩ := HB.out FL.out FT.out
        obtain ⟨ox1, ox2, ox3, oy2, oz1, oz2, oz3⟩ := HOV.out g1 g2 g3 g4
        by_cases hk : kd = 10
        · subst hk
          by_cases hm0 : m = 0
          · have hm1 : ((m : Int) == 0) = true := by rw [hm0]; rfl
            go_wp2
            go_ret
            exact ⟨rfl, S3.out.below⟩
          · have hm1 : ((m : Int) == 0) = false := by rw [beq_eq_false_iff_ne]; omega
            go_wp2_with fail
            refine ((HL.out FL.out) _ S3.out).mono ?_
            rintro e w4 ⟨rfl, h4⟩
            obtain ⟨a0, a1, a2, a3, a4, a5⟩ := CL.out _ h4
            have S4 := Lib.hid h4
            clear h4
            go_wp2_with fail
            refine ((HR.out FT.out) _ S4.out).mono ?_
            rintro e w5 ⟨rfl, h5⟩
            obtain ⟨a0, a1, a2, a3, a4, a5⟩ := CL.out _ h5
            have S5 := Lib.hid h5
            clear h5
            go_wp2_with fail
            refine ((HA.out FT.out) _ S5.out).mono ?_
            rintro e w6 ⟨rfl, h6⟩
            obtain ⟨a0, a1, a2, a3, a4, a5⟩ := CL.out _ h6
            have S6 := Lib.hid h6
            clear h6
            have hU := H10.out (by first | rfl | trivial)
            have hu : ((bs (tell r)).toList == [40, 41]) = false := HV.out FT.out hU (by omega)
            clear HU HV H10
            have UU := S6.out
            have HQ1 := Lib.hid (HP.out FL.out)
            have HQ2 := Lib.hid (HR.out FT.out)
            have HQ3 := Lib.hid (HI2.out FL.out FT.out hU)
            clear HZ HT HF HL HP HR HA HB HOV HI1 HI2 FL FT g1 g2 g3 g4 a0 a1 a2 a3 a4 a5 CL S0 S1 S2 S3 S4 S5 S6
            go_wp2_with fail
            go_region_held3 (fun w' => w'.cell? ⟨w.heap.size, 0, none⟩ = some (.int .i64 10) ∧ w'.cell? ⟨w.heap.size, 1, none⟩ = some (.int .u8 c.toNat) ∧ w'.cell? ⟨w.heap.size, 2, none⟩ = some (.string (bs nm)) ∧ w'.cell? ⟨w.heap.size, 3, none⟩ = some (.int .u64 n) ∧ w'.cell? ⟨w.heap.size, 4, none⟩ = some (.bool fl) ∧ w'.cell? ⟨w.heap.size, 5, none⟩ = some (.slice a m cap)) (first | exact CF.out _ (by assumption) | exact CF.out _ (HDR.out _ (by assumption)))
              (first
                | (go_at_call 28; refine (HQ1.out _ ?_).mono ?_; (first | assumption | exact HDR.out _ (by assumption)); rintro e w9 ⟨rfl, UU⟩)
                | (go_at_call 24; refine (HQ2.out _ ?_).mono ?_; (first | assumption | exact HDR.out _ (by assumption)); rintro e w9 ⟨rfl, UU⟩)
                | (go_at_call 27; refine (HQ3.out _ ?_).mono ?_; (first | assumption | exact HDR.out _ (by assumption)); rintro e w9 ⟨rfl, UU⟩))
            all_goals go_wp2
            all_goals go_ret
            all_goals exact ⟨rfl, Sta.below (by assumption)⟩
        · have hk1 : (kd == (10 : Int)) = false := by rw [beq_eq_false_iff_ne]; exact hk
          go_wp2_with fail
          refine ((HL.out FL.out) _ S3.out).mono ?_
          rintro e w4 ⟨rfl, h4⟩
          obtain ⟨a0, a1, a2, a3, a4, a5⟩ := CL.out _ h4
          have S4 := Lib.hid h4
          clear h4
          go_wp2_with fail
          refine ((HR.out FT.out) _ S4.out).mono ?_
          rintro e w5 ⟨rfl, h5⟩
          obtain ⟨a0, a1, a2, a3, a4, a5⟩ := CL.out _ h5
          have S5 := Lib.hid h5
          clear h5
          go_wp2_with fail
          refine ((HA.out FT.out) _ S5.out).mono ?_
          rintro e w6 ⟨rfl, h6⟩
          obtain ⟨a0, a1, a2, a3, a4, a5⟩ := CL.out _ h6
          have S6 := Lib.hid h6
          clear h6
          by_cases hU : r.kd = 7 ∧ r.c = 117
          · have hu : ((bs (tell r)).toList == [40, 41]) = true := HU.out hU
            clear HU HV H10
            have UU := S6.out
            have HQ1 := Lib.hid (HP.out FL.out)
            have HQ2 := Lib.hid (HR.out FT.out)
            have HQ3 := Lib.hid (HI1.out FL.out FT.out hU)
            clear HZ HT HF HL HP HR HA HB HOV HI1 HI2 FL FT g1 g2 g3 g4 a0 a1 a2 a3 a4 a5 CL S0 S1 S2 S3 S4 S5 S6
            go_wp2_with fail
            go_region_held3 (fun w' => w'.cell? ⟨w.heap.size, 0, none⟩ = some (.int .i64 kd) ∧ w'.cell? ⟨w.heap.size, 1, none⟩ = some (.int .u8 c.toNat) ∧ w'.cell? ⟨w.heap.size, 2, none⟩ = some (.string (bs nm)) ∧ w'.cell? ⟨w.heap.size, 3, none⟩ = some (.int .u64 n) ∧ w'.cell? ⟨w.heap.size, 4, none⟩ = some (.bool fl) ∧ w'.cell? ⟨w.heap.size, 5, none⟩ = some (.slice a m cap)) (first | exact CF.out _ (by assumption) | exact CF.out _ (HDR.out _ (by assumption)))
              (first
                | (go_at_call 28; refine (HQ1.out _ ?_).mono ?_; (first | assumption | exact HDR.out _ (by assumption)); rintro e w9 ⟨rfl, UU⟩)
                | (go_at_call 24; refine (HQ2.out _ ?_).mono ?_; (first | assumption | exact HDR.out _ (by assumption)); rintro e w9 ⟨rfl, UU⟩)
                | (go_at_call 27; refine (HQ3.out _ ?_).mono ?_; (first | assumption | exact HDR.out _ (by assumption)); rintro e w9 ⟨rfl, UU⟩))
            all_goals go_wp2
            all_goals go_ret
            all_goals exact ⟨rfl, Sta.below (by assumption)⟩
          · have hu : ((bs (tell r)).toList == [40, 41]) = false := HV.out FT.out hU (by omega)
            clear HU HV H10
            have UU := S6.out
            have HQ1 := Lib.hid (HP.out FL.out)
            have HQ2 := Lib.hid (HR.out FT.out)
            have HQ3 := Lib.hid (HI2.out FL.out FT.out hU)
            clear HZ HT HF HL HP HR HA HB HOV HI1 HI2 FL FT g1 g2 g3 g4 a0 a1 a2 a3 a4 a5 CL S0 S1 S2 S3 S4 S5 S6
            go_wp2_with fail
            go_region_held3 (fun w' => w'.cell? ⟨w.heap.size, 0, none⟩ = some (.int .i64 kd) ∧ w'.cell? ⟨w.heap.size, 1, none⟩ = some (.int .u8 c.toNat) ∧ w'.cell? ⟨w.heap.size, 2, none⟩ = some (.string (bs nm)) ∧ w'.cell? ⟨w.heap.size, 3, none⟩ = some (.int .u64 n) ∧ w'.cell? ⟨w.heap.size, 4, none⟩ = some (.bool fl) ∧ w'.cell? ⟨w.heap.size, 5, none⟩ = some (.slice a m cap)) (first | exact CF.out _ (by assumption) | exact CF.out _ (HDR.out _ (by assumption)))
              (first
                | (go_at_call 28; refine (HQ1.out _ ?_).mono ?_; (first | assumption | exact HDR.out _ (by assumption)); rintro e w9 ⟨rfl, UU⟩)
                | (go_at_call 24; refine (HQ2.out _ ?_).mono ?_; (first | assumption | exact HDR.out _ (by assumption)); rintro e w9 ⟨rfl, UU⟩)
                | (go_at_call 27; refine (HQ3.out _ ?_).mono ?_; (first | assumption | exact HDR.out _ (by assumption)); rintro e w9 ⟨rfl, UU⟩))
            all_goals go_wp2
            all_goals go_ret
            all_goals exact ⟨rfl, Sta.below (by assumption)⟩
end Go.Proofs.YtaeiclgdhchneaaGreatDoor

