/- The text of a constant; a constant, written. -/
import Derived.Test.YtlpbhfmhndhbkaaGreatDoorHex
import Derived.Test.YtlpbhfmhndhbkaaGreatDoorSpec0
import Derived.Test.YtlpbhfmhndhbkaaGreatDoorPut
namespace Go.Proofs.YtlpbhfmhndhbkaaGreatDoor
open Go.RowKit

theorem conv1k (w : World) (k : Nat) (hk : k = w.heap.size) (c : UInt8) (v : Int) (hv : v = c.toNat) :
    (convert 41 9 (.slice (some ⟨k, 0, none⟩) 1 1)).run Tryz.prog (w.alloc (.cells #[.int .u8 v] 5)) = .ok (.string (bs [c])) (w.alloc (.cells #[.int .u8 v] 5)) := by
  subst hk; exact conv1 w c v hv

theorem hole_text1 (c : UInt8) (nm : List UInt8) (n : Nat) (fl : Bool) (ks : Value) (w : World) :
    Calls Tryz.prog 15 #[.agg (rv 21 c nm n fl ks)] w fun e w' => e = .returned (.string (bs [95])) ∧ Below w.heap.size w w' := by
  go_enter Tryz.func15, Tryz.ntmps15
  go_wp2
  go_ret
  exact ⟨rfl, (Below.refl _ _).alloc (Nat.le_refl _) _⟩

set_option maxHeartbeats 2000000 in
set_option maxRecDepth 100000 in
theorem num_text1 (K : Nat) (c : UInt8) (nm : List UInt8) (n : Nat) (fl : Bool) (ks : Value) (hK : KindOk K c n fl) (hn : n < 18446744073709551616) (w : World) :
    Calls Tryz.prog 15 #[.agg (rv 20 c nm n fl ks)] w fun e w' => e = .returned (.string (bs (negText fl ++ constText K n))) ∧ Below w.heap.size w w' := by
  by_cases h98 : c.toNat = 98
  · have hk : K = 3 ∧ fl = false ∧ n ≤ 1 := by
      unfold KindOk isSg isUn at hK
      rcases hK with ⟨_, h⟩ | ⟨_, h, _⟩ | ⟨h, _, hf, hm⟩ | ⟨_, h, _⟩
      · omega
      · omega
      · exact ⟨h, hf, hm⟩
      · omega
    obtain ⟨rfl, rfl, h1⟩ := hk
    clear hK
    by_cases h0 : n = 0
    · subst h0
      go_enter Tryz.func15, Tryz.ntmps15
      go_wp2
      go_ret
      exact ⟨rfl, (Below.refl _ _).alloc (Nat.le_refl _) _⟩
    · obtain rfl : n = 1 := by omega
      go_enter Tryz.func15, Tryz.ntmps15
      go_wp2
      go_ret
      exact ⟨rfl, (Below.refl _ _).alloc (Nat.le_refl _) _⟩
  · have h98' : ((c.toNat : Int) == 98) = false := by rw [beq_eq_false_iff_ne]; omega
    by_cases h99 : c.toNat = 99
    · have hk : K = 4 ∧ fl = false ∧ 32 ≤ n ∧ n ≤ 126 := by
        unfold KindOk isSg isUn at hK
        rcases hK with ⟨_, h⟩ | ⟨_, h, _⟩ | ⟨_, h, _⟩ | ⟨h, _, hf, hm, hm2, _⟩
        · omega
        · omega
        · omega
        · exact ⟨h, hf, hm, hm2⟩
      obtain ⟨rfl, rfl, hh⟩ := hk
      obtain ⟨c', hc⟩ : ∃ c, c = UInt8.ofNat n := ⟨_, rfl⟩
      have hv : (c'.toNat : Int) = n := by rw [hc, UInt8.toNat_ofNat_of_lt' (by show _ < 256; omega)]
      have q := conv1k (w.alloc (.cells (rv 20 c nm n false ks) 25)) (w.heap.size + 1) (by simp) c' n hv.symm
      have e1 : bs (negText false ++ constText 4 n) = bs [39, c', 39] := by rw [hc]; rfl
      rw [e1]
      have hw : IntKind.u8.wrap (n : Int) = n := IntWalk.u8_in _ (by omega)
      clear hc hK e1 h98 hv
      go_enter Tryz.func15, Tryz.ntmps15
      go_wp2
      go_ret
      exact ⟨rfl, ((Below.refl _ _).alloc (Nat.le_refl _) _).alloc (by simp) _⟩
    · have h99' : ((c.toNat : Int) == 99) = false := by rw [beq_eq_false_iff_ne]; omega
      have e1 : constText K n = Lib.decDigits n := by
        have : K ≠ 3 ∧ K ≠ 4 := by unfold KindOk isSg isUn at hK; omega
        rw [constText, if_neg this.1, if_neg this.2]
      rw [e1]
      have J := Lib.hid (decimal_text n hn)
      have hl := decDigits_le 19 n (by omega)
      clear hK h98 h99 e1 hn
      cases fl with
      | false =>
        go_enter Tryz.func15, Tryz.ntmps15
        go_wp2_with (go_at_call 30; refine (J.out _).mono ?_)
        rintro e w' ⟨rfl, hb⟩
        go_wp2
        go_ret
        exact ⟨rfl, ((Below.refl _ _).alloc (Nat.le_refl _) _).trans (hb.mono (by simp))⟩
      | true =>
        go_enter Tryz.func15, Tryz.ntmps15
        go_wp2_with (go_at_call 30; refine (J.out _).mono ?_)
        rintro e w' ⟨rfl, hb⟩
        have hm : 1 + (Lib.decDigits n).length ≤ maxLen := by unfold maxLen; omega
        go_wp2
        go_ret
        exact ⟨rfl, ((Below.refl _ _).alloc (Nat.le_refl _) _).trans (hb.mono (by simp))⟩

theorem hole_text (c : UInt8) (nm : List UInt8) (n : Nat) (fl : Bool) (ks : Value) (w : World) :
    Calls Tryz.prog 9 #[.agg (rv 21 c nm n fl ks)] w fun e w' => e = .returned (.string (bs [95])) ∧ Below w.heap.size w w' := by
  go_enter Tryz.func9, Tryz.ntmps9
  go_wp2_with (go_at_call 15; refine (hole_text1 c nm n fl ks _).mono ?_)
  rintro e w' ⟨rfl, hb⟩
  go_wp2
  go_ret
  exact ⟨rfl, ((Below.refl _ _).alloc (Nat.le_refl _) _).trans (hb.mono (by simp))⟩
theorem num_text (K : Nat) (c : UInt8) (nm : List UInt8) (n : Nat) (fl : Bool) (ks : Value) (hK : KindOk K c n fl) (hn : n < 18446744073709551616) (w : World) :
    Calls Tryz.prog 9 #[.agg (rv 20 c nm n fl ks)] w fun e w' => e = .returned (.string (bs (negText fl ++ constText K n))) ∧ Below w.heap.size w w' := by
  go_enter Tryz.func9, Tryz.ntmps9
  go_wp2_with (go_at_call 15; refine (num_text1 K c nm n fl ks hK hn _).mono ?_)
  rintro e w' ⟨rfl, hb⟩
  go_wp2
  go_ret
  exact ⟨rfl, ((Below.refl _ _).alloc (Nat.le_refl _) _).trans (hb.mono (by simp))⟩
end Go.Proofs.YtlpbhfmhndhbkaaGreatDoor
