/- FnRustNumber: the body. -/
import Derived.Test.YtlpbhfmhndhbkaaGreatDoorLawIs
import Derived.Test.YtlpbhfmhndhbkaaGreatDoorCPiece
import Derived.Deep.RegionWith
import Derived.Test.YtlpbhfmhndhbkaaGreatDoorLookE
namespace Go.Proofs.YtlpbhfmhndhbkaaGreatDoor
open Go.RowKit

set_option maxHeartbeats 2000000 in
set_option maxRecDepth 100000 in
theorem fits2_any (kd : Int) (c : UInt8) (nm : List UInt8) (n : Nat) (fl : Bool) (a : Option Addr) (m cap : Nat) (w : World) :
    Calls Tryz.prog 5 #[.agg (rv kd c nm n fl (.slice a m cap))] w fun e w' => ∃ bl : Bool, e = .returned (.bool bl) ∧ Below w.heap.size w w' := by
  by_cases h1 : nm.length ≤ 2147483647
  · by_cases h2 : m ≤ 2147483647
    all_goals
      go_enter Tryz.func5, Tryz.ntmps5
      go_wp2
      all_goals
        go_ret
        exact ⟨_, rfl, (Below.refl _ _).alloc (Nat.le_refl _) _⟩
  · go_enter Tryz.func5, Tryz.ntmps5
    go_wp2
    go_ret
    exact ⟨_, rfl, (Below.refl _ _).alloc (Nat.le_refl _) _⟩

/-- A world behind w0, in which a tree's box lies at k. -/
structure St (w0 : World) (k : Nat) (cs : Array Value) (w : World) : Prop where
  below : Below w0.heap.size w0 w
  box : w.heap[k]? = some (.cells cs tRu (0, 0))
theorem St.drew {w0 : World} {k : Nat} {cs : Array Value} {w : World} (h : St w0 k cs w) : St w0 k cs w.drew := ⟨h.below.drew, h.box⟩
theorem St.step {w0 : World} {k : Nat} {cs : Array Value} {w w' : World} (h : St w0 k cs w) (b : Below w.heap.size w w') : St w0 k cs w' :=
  ⟨h.below.trans (b.mono h.below.size), (b.block k (Array.getElem?_eq_some_iff.1 h.box).1).trans h.box⟩
theorem St.cells {w0 : World} {k : Nat} {kd : Int} {c : UInt8} {nm : List UInt8} {n : Nat} {fl : Bool} {ks : Value} {w : World} (h : St w0 k (rv kd c nm n fl ks) w) :
    w.cell? ⟨k, 0, none⟩ = some (.int .i64 kd) ∧ w.cell? ⟨k, 1, none⟩ = some (.int .u8 c.toNat) ∧ w.cell? ⟨k, 2, none⟩ = some (.string (bs nm)) ∧ w.cell? ⟨k, 3, none⟩ = some (.int .u64 n) ∧
      w.cell? ⟨k, 4, none⟩ = some (.bool fl) ∧ w.cell? ⟨k, 5, none⟩ = some ks := by
  refine ⟨?_, ?_, ?_, ?_, ?_, ?_⟩ <;> (rw [cellAt h.box]; rfl)

/-- What is known of a constant that is right. -/
theorem const_facts (kd : Int) (c : UInt8) (nm : List UInt8) (n : Nat) (fl : Bool) (ks : Value) (hn : n < 18446744073709551616) (h : (kd = 20 ∧ ∃ K, KindOk K c n fl) ∨ kd = 21) :
    ∃ p txt : List UInt8, p.length ≤ 100 ∧ txt.length ≤ 100 ∧ txt ≠ [] ∧ ReadAs (nameOf (75 :: p)) (toldOf txt) ∧
      (∀ (B : Nat) (w : World), Tabs B w → B ≤ w.heap.size → Calls Tryz.prog 8 #[.agg (rv kd c nm n fl ks), .slice none 0 0] w fun en w' => en = .returned (.string (bs p)) ∧ Below w.heap.size w w') ∧
      (∀ (w : World), Calls Tryz.prog 9 #[.agg (rv kd c nm n fl ks)] w fun e w' => e = .returned (.string (bs txt)) ∧ Below w.heap.size w w') := by
  rcases h with ⟨rfl, K, hK⟩ | rfl
  · have hl := h16_len n 15 (by omega)
    have hd := decDigits_le 19 n (by omega)
    have hc : (constText K n).length ≤ 20 ∧ constText K n ≠ [] := by
      unfold constText
      split
      · split <;> simp
      · split
        · simp
        · refine ⟨hd, ?_⟩
          rw [Lib.decDigits]; split <;> simp
    have hnc : (negCode fl).length ≤ 1 := by cases fl <;> simp [negCode]
    have hnt : (negText fl).length ≤ 1 := by cases fl <;> simp [negText]
    exact ⟨c :: (negCode fl ++ (h16 n ++ [95])), negText fl ++ constText K n, by simp; omega, by simp; omega, by simp [hc.2], read_num K c n fl hK hn, fun B w ht hB => rustPiece_num c nm n fl ks hn B w ht hB, fun w => num_text K c nm n fl ks hK hn w⟩
  · exact ⟨[112], [95], by simp, by simp, by simp, read_hole, fun B w ht hB => rustPiece_hole c nm n fl ks B w ht hB, fun w => hole_text c nm n fl ks w⟩

set_option maxHeartbeats 4000000 in
set_option maxRecDepth 100000 in
theorem number_law (kd : Int) (c : UInt8) (nm : List UInt8) (n : Nat) (fl : Bool) (a : Option Addr) (m cap : Nat) (hn : n < 18446744073709551616) (B : Nat) (w : World) (hT : Tabs B w) (hB : B ≤ w.heap.size) :
    Calls Tryz.prog 3 #[.agg (rv kd c nm n fl (.slice a m cap))] w fun e w' => e = .returned (.bool true) ∧ Below w.heap.size w w' := by
  obtain ⟨v, hv⟩ : ∃ v, rcOk kd c.toNat n fl m = v := ⟨_, rfl⟩
  have HR := Lib.hid (fun w => right_constE c nm n fl a m cap w kd v hv hn)
  have TT := Lib.hid (fun (w1 : World) (b : Below w.heap.size w w1) => (⟨hT.same fun k hk => b.block k (by omega), Nat.le_trans hB b.size⟩ : Tabs B w1 ∧ B ≤ w1.heap.size))
  cases v with
  | false =>
    clear hT hB hv
    go_enter Tryz.func3, Tryz.ntmps3
    go_wp2_with (go_at_call 5; refine (fits2_any kd c nm n fl a m cap _).mono ?_)
    rintro e w1 ⟨bl, rfl, b1⟩
    have S1 : St w w.heap.size (rv kd c nm n fl (.slice a m cap)) w1 := ⟨((Below.refl w.heap.size w).alloc (Nat.le_refl _) _).trans (b1.mono (by simp)), (b1.block _ (by simp)).trans (tree_new w _)⟩
    obtain ⟨a0, a1, a2, a3, a4, a5⟩ := S1.cells
    have bA := Lib.hid S1
    clear b1 S1
    cases bl with
    | false =>
      go_wp2
      go_ret
      exact ⟨rfl, bA.out.below⟩
    | true =>
      go_wp2_with fail
      go_region_with (first
        | (go_at_call 6; refine (HR.out _).mono ?_; rintro e w2 ⟨rfl, b2⟩))
      all_goals go_wp2
      all_goals go_ret
      all_goals exact ⟨rfl, (bA.out.drew.step b2).below⟩
  | true =>
    obtain ⟨p, txt, hp, ht, hne, hread, HP, HC⟩ := const_facts kd c nm n fl (.slice a m cap) hn (rcOk_kind hv)
    have e1 : (⟨#[75]⟩ : ByteArray) ++ bs p = bs (75 :: p) := by rw [show (⟨#[75]⟩ : ByteArray) = bs [75] from rfl, bs_append]; rfl
    have h1 : ¬ 9223372036854775807 < 1 + p.length := by omega
    have HR2 := Lib.hid (fun (w1 : World) (s : St w w.heap.size (rv kd c nm n fl (.slice a m cap)) w1) => (HR.out w1).mono (R' := fun e w' => e = .returned (.bool true) ∧ St w w.heap.size (rv kd c nm n fl (.slice a m cap)) w') fun _ _ h => ⟨h.1, s.step h.2⟩)
    have HP2 := Lib.hid (fun (w1 : World) (s : St w w.heap.size (rv kd c nm n fl (.slice a m cap)) w1) => (HP B w1 (TT.out w1 s.below).1 (TT.out w1 s.below).2).mono (R' := fun e w' => e = .returned (.string (bs p)) ∧ St w w.heap.size (rv kd c nm n fl (.slice a m cap)) w') fun _ _ h => ⟨h.1, s.step h.2⟩)
    have HC2 := Lib.hid (fun (w1 : World) (s : St w w.heap.size (rv kd c nm n fl (.slice a m cap)) w1) => (HC w1).mono (R' := fun e w' => e = .returned (.string (bs txt)) ∧ St w w.heap.size (rv kd c nm n fl (.slice a m cap)) w') fun _ _ h => ⟨h.1, s.step h.2⟩)
    have HI2 := Lib.hid (fun (w1 : World) (s : St w w.heap.size (rv kd c nm n fl (.slice a m cap)) w1) => (argumentIs_any (75 :: p) txt (by simp; omega) (by omega) hread B w1 (TT.out w1 s.below).1 (TT.out w1 s.below).2).mono (R' := fun e w' => e = .returned (.bool true) ∧ St w w.heap.size (rv kd c nm n fl (.slice a m cap)) w') fun _ _ h => ⟨h.1, s.step h.2⟩)
    clear hT hB hv HR HP HC hread hp ht hne TT
    go_enter Tryz.func3, Tryz.ntmps3
    go_wp2_with (go_at_call 5; refine (fits2_any kd c nm n fl a m cap _).mono ?_)
    rintro e w1 ⟨bl, rfl, b1⟩
    have S1 : St w w.heap.size (rv kd c nm n fl (.slice a m cap)) w1 := ⟨((Below.refl w.heap.size w).alloc (Nat.le_refl _) _).trans (b1.mono (by simp)), (b1.block _ (by simp)).trans (tree_new w _)⟩
    obtain ⟨a0, a1, a2, a3, a4, a5⟩ := S1.cells
    clear b1
    cases bl with
    | false =>
      go_wp2
      go_ret
      exact ⟨rfl, S1.below⟩
    | true =>
      go_wp2_with fail
      go_region_with (first
        | (go_at_call 6; refine (HR2.out _ ?_).mono ?_; (first | assumption | exact St.drew (by assumption)); rintro e w2 ⟨rfl, S2⟩; obtain ⟨a0, a1, a2, a3, a4, a5⟩ := S2.cells)
        | (go_at_call 8; refine (HP2.out _ ?_).mono ?_; (first | assumption | exact St.drew (by assumption)); rintro e w2 ⟨rfl, S2⟩; obtain ⟨a0, a1, a2, a3, a4, a5⟩ := S2.cells)
        | (go_at_call 9; refine (HC2.out _ ?_).mono ?_; (first | assumption | exact St.drew (by assumption)); rintro e w2 ⟨rfl, S2⟩; obtain ⟨a0, a1, a2, a3, a4, a5⟩ := S2.cells)
        | (go_at_call 7; refine (HI2.out _ ?_).mono ?_; (first | assumption | exact St.drew (by assumption)); rintro e w2 ⟨rfl, S2⟩; obtain ⟨a0, a1, a2, a3, a4, a5⟩ := S2.cells))
      all_goals go_wp2
      all_goals go_ret
      all_goals exact ⟨rfl, St.below (by assumption)⟩
end Go.Proofs.YtlpbhfmhndhbkaaGreatDoor
