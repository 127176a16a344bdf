/- FnConstantArgument: the body. -/
import Derived.Test.YtlpbhfmhndhbkaaGreatDoorNumLaw
import Derived.Test.YtlpbhfmhndhbkaaGreatDoorZZ
namespace Go.Proofs.YtlpbhfmhndhbkaaGreatDoor
open Go.RowKit

set_option maxHeartbeats 2000000 in
set_option maxRecDepth 100000 in
theorem zzConst_any (inp txt : List UInt8) (G : Nat → Prop) (h : Says 33 #[] 0 false inp [] txt G) (hlen : inp.length ≤ 100000000) (ht : txt ≠ []) (htl : txt.length ≤ 1000000000) (B : Nat) (w : World) (hT : Tabs B w) (hB : B ≤ w.heap.size) :
    Calls Tryz.prog 16 #[.string (bs inp)] w fun e w' => e = .returned (.tuple #[.string (bs txt), .string (bs []), .nilIface]) ∧ Below w.heap.size w w' := by
  have HZ := Lib.hid (zzRun_const inp txt G h hlen ht htl B w hT hB)
  clear h hT hB hlen ht htl
  go_enter Tryz.func16, Tryz.ntmps16
  go_wp2_with (go_at_call 31; refine HZ.out.mono ?_)
  rintro e w1 ⟨rfl, b1⟩
  go_wp2
  go_ret3
  exact ⟨rfl, b1⟩

set_option maxHeartbeats 2000000 in
set_option maxRecDepth 100000 in
theorem constant_any (inp txt : List UInt8) (G : Nat → Prop) (h : Says 33 #[] 0 false inp [] txt G) (hlen : inp.length ≤ 100000000) (ht : txt ≠ []) (htl : txt.length ≤ 1000000000) (B : Nat) (w : World) (hT : Tabs B w) (hB : B ≤ w.heap.size) :
    Calls Tryz.prog 10 #[.string (bs inp)] w fun e w' => e = .returned (.tuple #[.string (bs txt), .string (bs []), .bool true]) ∧ Below w.heap.size w w' := by
  have HZ := Lib.hid (zzConst_any inp txt G h hlen ht htl B w hT hB)
  clear h hT hB hlen ht htl
  go_enter Tryz.func10, Tryz.ntmps10
  go_wp2_with (go_at_call 16; refine HZ.out.mono ?_)
  rintro e w1 ⟨rfl, b1⟩
  go_wp2
  go_ret3
  exact ⟨rfl, b1⟩

/-- What is known of a constant that is right. -/
theorem const_facts2 (kd : Int) (c : UInt8) (nm : List UInt8) (n : Nat) (fl : Bool) (ks : Value) (hn : n < 18446744073709551616) (h : (kd = 20 ∧ ∃ K, KindOk K c n fl) ∨ kd = 21) :
    ∃ p txt : List UInt8, p.length ≤ 100 ∧ txt.length ≤ 100 ∧ txt ≠ [] ∧ ReadAs (nameOf (75 :: p)) (toldOf txt) ∧ Says 33 #[] 0 false p [] txt T0 ∧
      (∀ (B : Nat) (w : World), Tabs B w → B ≤ w.heap.size → Calls Tryz.prog 8 #[.agg (rv kd c nm n fl ks), .slice none 0 0] w fun en w' => en = .returned (.string (bs p)) ∧ Below w.heap.size w w') := by
  rcases h with ⟨rfl, K, hK⟩ | rfl
  · have hl := h16_len n 15 (by omega)
    have hd := decDigits_le 19 n (by omega)
    have hc : (constText K n).length ≤ 20 ∧ constText K n ≠ [] := by
      unfold constText
      split
      · split <;> simp
      · split
        · simp
        · refine ⟨hd, ?_⟩
          rw [Lib.decDigits]; split <;> simp
    have hnc : (negCode fl).length ≤ 1 := by cases fl <;> simp [negCode]
    have hnt : (negText fl).length ≤ 1 := by cases fl <;> simp [negText]
    exact ⟨c :: (negCode fl ++ (h16 n ++ [95])), negText fl ++ constText K n, by simp; omega, by simp; omega, by simp [hc.2], read_num K c n fl hK hn, const_num 0 false c n K fl hK hn [] _ rfl, fun B w ht hB => rustPiece_num c nm n fl ks hn B w ht hB⟩
  · exact ⟨[112], [95], by simp, by simp, by simp, read_hole, const_hole 0 false [] _ rfl, fun B w ht hB => rustPiece_hole c nm n fl ks B w ht hB⟩

set_option maxHeartbeats 4000000 in
set_option maxRecDepth 100000 in
theorem carg_law (kd : Int) (c : UInt8) (nm : List UInt8) (n : Nat) (fl : Bool) (a : Option Addr) (m cap : Nat) (hn : n < 18446744073709551616) (B : Nat) (w : World) (hT : Tabs B w) (hB : B ≤ w.heap.size) :
    Calls Tryz.prog 4 #[.agg (rv kd c nm n fl (.slice a m cap))] w fun e w' => e = .returned (.bool true) ∧ Below w.heap.size w w' := by
  obtain ⟨v, hv⟩ : ∃ v, rcOk kd c.toNat n fl m = v := ⟨_, rfl⟩
  have HR := Lib.hid (fun w => right_constE c nm n fl a m cap w kd v hv hn)
  have TT := Lib.hid (fun (w1 : World) (b : Below w.heap.size w w1) => (⟨hT.same fun k hk => b.block k (by omega), Nat.le_trans hB b.size⟩ : Tabs B w1 ∧ B ≤ w1.heap.size))
  cases v with
  | false =>
    clear hT hB hv
    go_enter Tryz.func4, Tryz.ntmps4
    go_wp2_with (first
      | (go_at_call 5; refine (fits2_any kd c nm n fl a m cap _).mono ?_)
      | (go_at_call 6; fail))
    rintro e w1 ⟨bl, rfl, b1⟩
    have S1 : St w w.heap.size (rv kd c nm n fl (.slice a m cap)) w1 := ⟨((Below.refl w.heap.size w).alloc (Nat.le_refl _) _).trans (b1.mono (by simp)), (b1.block _ (by simp)).trans (tree_new w _)⟩
    obtain ⟨a0, a1, a2, a3, a4, a5⟩ := S1.cells
    have bA := Lib.hid S1
    clear b1 S1
    cases bl with
    | false =>
      go_wp2
      go_ret
      exact ⟨rfl, bA.out.below⟩
    | true =>
      go_wp2_with (go_at_call 6; refine (HR.out _).mono ?_; rintro e w2 ⟨rfl, b2⟩)
      all_goals go_wp2
      all_goals go_ret
      all_goals exact ⟨rfl, (bA.out.step b2).below⟩
  | true =>
    obtain ⟨p, txt, hp, ht, hne, hread, hsay, HP⟩ := const_facts2 kd c nm n fl (.slice a m cap) hn (rcOk_kind hv)
    have e1 : (⟨#[75]⟩ : ByteArray) ++ bs p = bs (75 :: p) := by rw [show (⟨#[75]⟩ : ByteArray) = bs [75] from rfl, bs_append]; rfl
    have h1 : ¬ 9223372036854775807 < 1 + p.length := by omega
    have ht0 : (bs txt).toList.isEmpty = false := by rw [ByteArray.toList_eq]; cases txt with | nil => exact absurd rfl hne | cons _ _ => rfl
    have hn0 : (bs []).toList.isEmpty = true := by rw [ByteArray.toList_eq]; rfl
    have HR2 := Lib.hid (fun (w1 : World) (s : St w w.heap.size (rv kd c nm n fl (.slice a m cap)) w1) => (HR.out w1).mono (R' := fun e w' => e = .returned (.bool true) ∧ St w w.heap.size (rv kd c nm n fl (.slice a m cap)) w') fun _ _ h => ⟨h.1, s.step h.2⟩)
    have HP2 := Lib.hid (fun (w1 : World) (s : St w w.heap.size (rv kd c nm n fl (.slice a m cap)) w1) => (HP B w1 (TT.out w1 s.below).1 (TT.out w1 s.below).2).mono (R' := fun e w' => e = .returned (.string (bs p)) ∧ St w w.heap.size (rv kd c nm n fl (.slice a m cap)) w') fun _ _ h => ⟨h.1, s.step h.2⟩)
    have HC2 := Lib.hid (fun (w1 : World) (s : St w w.heap.size (rv kd c nm n fl (.slice a m cap)) w1) => (constant_any p txt T0 hsay (by omega) hne (by omega) B w1 (TT.out w1 s.below).1 (TT.out w1 s.below).2).mono (R' := fun e w' => e = .returned (.tuple #[.string (bs txt), .string (bs []), .bool true]) ∧ St w w.heap.size (rv kd c nm n fl (.slice a m cap)) w') fun _ _ h => ⟨h.1, s.step h.2⟩)
    have HI2 := Lib.hid (fun (w1 : World) (s : St w w.heap.size (rv kd c nm n fl (.slice a m cap)) w1) => (argumentIs_any (75 :: p) txt (by simp; omega) (by omega) hread B w1 (TT.out w1 s.below).1 (TT.out w1 s.below).2).mono (R' := fun e w' => e = .returned (.bool true) ∧ St w w.heap.size (rv kd c nm n fl (.slice a m cap)) w') fun _ _ h => ⟨h.1, s.step h.2⟩)
    clear hT hB hv HR HP hread hp ht hne TT hsay
    go_enter Tryz.func4, Tryz.ntmps4
    go_wp2_with (go_at_call 5; refine (fits2_any kd c nm n fl a m cap _).mono ?_)
    rintro e w1 ⟨bl, rfl, b1⟩
    have S1 : St w w.heap.size (rv kd c nm n fl (.slice a m cap)) w1 := ⟨((Below.refl w.heap.size w).alloc (Nat.le_refl _) _).trans (b1.mono (by simp)), (b1.block _ (by simp)).trans (tree_new w _)⟩
    obtain ⟨a0, a1, a2, a3, a4, a5⟩ := S1.cells
    clear b1
    cases bl with
    | false =>
      go_wp2
      go_ret
      exact ⟨rfl, S1.below⟩
    | true =>
      go_wp2_with (go_at_call 6; refine (HR2.out _ S1).mono ?_)
      rintro e w2 ⟨rfl, S2⟩
      clear a0 a1 a2 a3 a4 a5 S1
      obtain ⟨a0, a1, a2, a3, a4, a5⟩ := S2.cells
      go_wp2_with (go_at_call 8; refine (HP2.out _ S2).mono ?_)
      rintro e w3 ⟨rfl, S3⟩
      clear a0 a1 a2 a3 a4 a5 S2
      go_wp2_with (go_at_call 10; refine (HC2.out _ S3).mono ?_)
      rintro e w4 ⟨rfl, S4⟩
      obtain ⟨a0, a1, a2, a3, a4, a5⟩ := S4.cells
      clear S3
      go_wp2_with (first
        | (go_at_call 8; refine (HP2.out _ S4).mono ?_)
        | (go_at_call 7; fail))
      rintro e w5 ⟨rfl, S5⟩
      clear a0 a1 a2 a3 a4 a5 S4
      go_wp2_with (go_at_call 7; refine (HI2.out _ S5).mono ?_)
      rintro e w6 ⟨rfl, S6⟩
      go_wp2
      go_ret
      exact ⟨rfl, S6.below⟩
end Go.Proofs.YtlpbhfmhndhbkaaGreatDoor
