/- The plain functions of the reference on constants: kinds, bits. -/
import Derived.Test.YtlpbhfmhndhbkaaGreatDoorBase
import Derived.Test.YtlpbhfmhndhbkaaGreatDoorPure2
namespace Go.Proofs.YtlpbhfmhndhbkaaGreatDoor
open Go.RowKit

theorem isPath_any (k : Int) (w : World) : Calls Tryz.prog 18 #[.int .i64 k] w fun e w' => e = .returned (.bool (decide (1 ≤ k) && decide (k ≤ 6))) ∧ w = w' := by
  by_cases h : 1 ≤ k
  · go_enter Tryz.func18, Tryz.ntmps18
    go_wp2
    go_ret
    exact ⟨by simp [h], rfl⟩
  · go_enter Tryz.func18, Tryz.ntmps18
    go_wp2
    go_ret
    exact ⟨by simp; omega, rfl⟩

/-- Of a constant: whether it is one of its type. -/
def sgBits (c : Nat) : Nat := if c = 97 then 8 else if c = 115 then 16 else if c = 108 then 32 else 64
def unBits (c : Nat) : Nat := if c = 104 then 8 else if c = 116 then 16 else if c = 109 then 32 else 64

set_option maxHeartbeats 1000000 in
theorem bits_sg (c : Nat) (hc : isSg c) (w : World) : Calls Tryz.prog 59 #[.int .u8 c] w fun e w' => e = .returned (.tuple #[.int .u64 (sgBits c), .bool true]) ∧ w = w' := by
  unfold isSg at hc
  rcases hc with rfl | rfl | rfl | rfl | rfl | rfl
  all_goals
    go_enter Tryz.func59, Tryz.ntmps59
    go_wp2
    go_ret2
    exact ⟨rfl, rfl⟩

set_option maxHeartbeats 1000000 in
theorem bits_un (c : Nat) (hc : isUn c) (w : World) : Calls Tryz.prog 59 #[.int .u8 c] w fun e w' => e = .returned (.tuple #[.int .u64 (unBits c), .bool false]) ∧ w = w' := by
  unfold isUn at hc
  rcases hc with rfl | rfl | rfl | rfl | rfl | rfl
  all_goals
    go_enter Tryz.func59, Tryz.ntmps59
    go_wp2
    go_ret2
    exact ⟨rfl, rfl⟩

set_option maxHeartbeats 1000000 in
theorem bits_no (c : Nat) (hc : ¬ isSg c) (hd : ¬ isUn c) (w : World) : Calls Tryz.prog 59 #[.int .u8 c] w fun e w' => e = .returned (.tuple #[.int .u64 0, .bool false]) ∧ w = w' := by
  unfold isSg at hc
  unfold isUn at hd
  have e1 : ((c : Int) == 97) = false := by rw [beq_eq_false_iff_ne]; omega
  have e2 : ((c : Int) == 115) = false := by rw [beq_eq_false_iff_ne]; omega
  have e3 : ((c : Int) == 108) = false := by rw [beq_eq_false_iff_ne]; omega
  have e4 : ((c : Int) == 120) = false := by rw [beq_eq_false_iff_ne]; omega
  have e5 : ((c : Int) == 110) = false := by rw [beq_eq_false_iff_ne]; omega
  have e6 : ((c : Int) == 105) = false := by rw [beq_eq_false_iff_ne]; omega
  have e7 : ((c : Int) == 104) = false := by rw [beq_eq_false_iff_ne]; omega
  have e8 : ((c : Int) == 116) = false := by rw [beq_eq_false_iff_ne]; omega
  have e9 : ((c : Int) == 109) = false := by rw [beq_eq_false_iff_ne]; omega
  have e10 : ((c : Int) == 121) = false := by rw [beq_eq_false_iff_ne]; omega
  have e11 : ((c : Int) == 111) = false := by rw [beq_eq_false_iff_ne]; omega
  have e12 : ((c : Int) == 106) = false := by rw [beq_eq_false_iff_ne]; omega
  clear hc hd
  go_enter Tryz.func59, Tryz.ntmps59
  go_wp2
  go_ret2
  exact ⟨rfl, rfl⟩

/-- A tree's own cells, as a value. -/
abbrev rv (kd : Int) (c : UInt8) (nm : List UInt8) (n : Nat) (fl : Bool) (ks : Value) : Array Value :=
  #[.int .i64 kd, .int .u8 c.toNat, .string (bs nm), .int .u64 n, .bool fl, ks]

/-- It answers a bool of which Q holds, and the world is R. -/
def BoolP (Q : Bool → Prop) (R : World → Prop) (e : Ending) (w' : World) : Prop := ∃ bl : Bool, e = .returned (.bool bl) ∧ Q bl ∧ R w'

set_option maxHeartbeats 4000000 in
set_option maxRecDepth 100000 in
theorem isNumber_any (Q : Bool → Prop) (kd : Int) (c : UInt8) (nm : List UInt8) (n : Nat) (fl : Bool) (ks : Value) (hn : n < 18446744073709551616) (hQ : ∀ bl, (bl = true → ∃ K, KindOk K c n fl) → Q bl) (w : World) :
    Calls Tryz.prog 39 #[.agg (rv kd c nm n fl ks)] w (BoolP Q fun w' => w.alloc (.cells (rv kd c nm n fl ks) 25) = w') := by
  by_cases h98 : c.toNat = 98
  · have hk : ∀ bl : Bool, (bl = true → n ≤ 1 ∧ fl = false) → Q bl := fun bl h => hQ bl fun e => ⟨3, .inr (.inr (.inl ⟨rfl, h98, (h e).2, (h e).1⟩))⟩
    have HK := Lib.hid hk
    clear hk hQ
    by_cases h1 : n ≤ 1
    · cases fl
      all_goals
        go_enter Tryz.func39, Tryz.ntmps39
        go_wp2
        go_ret
        refine ⟨_, rfl, HK.out _ ?_, rfl⟩
        simp <;> omega
    · have hd : decide ((n : Int) ≤ 1) = false := by simp; omega
      go_enter Tryz.func39, Tryz.ntmps39
      go_wp2
      go_ret
      refine ⟨_, rfl, HK.out _ ?_, rfl⟩
      simp
  · have h98' : ((c.toNat : Int) == 98) = false := by rw [beq_eq_false_iff_ne]; omega
    by_cases h99 : c.toNat = 99
    · have hk : ∀ bl : Bool, (bl = true → 32 ≤ n ∧ n ≤ 126 ∧ n ≠ 39 ∧ n ≠ 92 ∧ fl = false) → Q bl := fun bl h => hQ bl fun e => ⟨4, .inr (.inr (.inr ⟨rfl, h99, (h e).2.2.2.2, (h e).1, (h e).2.1, (h e).2.2.1, (h e).2.2.2.1⟩))⟩
      have HK := Lib.hid hk
      clear hk hQ h98
      by_cases h1 : 32 ≤ n
      · by_cases h2 : n ≤ 126
        · by_cases h3 : n = 39
          · subst h3
            go_enter Tryz.func39, Tryz.ntmps39
            go_wp2
            go_ret
            refine ⟨_, rfl, HK.out _ ?_, rfl⟩
            simp
          · by_cases h4 : n = 34
            · subst h4
              go_enter Tryz.func39, Tryz.ntmps39
              go_wp2
              go_ret
              refine ⟨_, rfl, HK.out _ ?_, rfl⟩
              simp
            · by_cases h5 : n = 92
              · subst h5
                go_enter Tryz.func39, Tryz.ntmps39
                go_wp2
                go_ret
                refine ⟨_, rfl, HK.out _ ?_, rfl⟩
                simp
              · have e3 : ((n : Int) != 39) = true := by rw [bne_iff_ne]; omega
                have e4 : ((n : Int) != 34) = true := by rw [bne_iff_ne]; omega
                have e5 : ((n : Int) != 92) = true := by rw [bne_iff_ne]; omega
                cases fl
                all_goals
                  go_enter Tryz.func39, Tryz.ntmps39
                  go_wp2
                  go_ret
                  refine ⟨_, rfl, HK.out _ ?_, rfl⟩
                  simp <;> omega
        · have hd : decide ((n : Int) ≤ 126) = false := by simp; omega
          go_enter Tryz.func39, Tryz.ntmps39
          go_wp2
          go_ret
          refine ⟨_, rfl, HK.out _ ?_, rfl⟩
          simp
      · have hd : decide ((32 : Int) ≤ n) = false := by simp; omega
        go_enter Tryz.func39, Tryz.ntmps39
        go_wp2
        go_ret
        refine ⟨_, rfl, HK.out _ ?_, rfl⟩
        simp
    · have h99' : ((c.toNat : Int) == 99) = false := by rw [beq_eq_false_iff_ne]; omega
      by_cases hsg : isSg c.toNat
      · have hk : ∀ bl : Bool, Q bl := fun bl => hQ bl fun _ => ⟨1, .inl ⟨rfl, hsg⟩⟩
        have HK := Lib.hid hk
        have HS := Lib.hid hsg
        clear hk hQ h98 h99 hsg
        cases fl
        all_goals
          go_enter Tryz.func39, Tryz.ntmps39
          go_wp2_with fail
          refine (bits_sg c.toNat HS.out _).mono ?_
          rintro e w1 ⟨rfl, rfl⟩
          go_wp2_with fail
          all_goals go_ret
          all_goals exact ⟨_, rfl, HK.out _, rfl⟩
      · by_cases hun : isUn c.toNat
        · have hk : ∀ bl : Bool, (bl = true → fl = false) → Q bl := fun bl h => hQ bl fun e => ⟨2, .inr (.inl ⟨rfl, hun, h e⟩)⟩
          have HK := Lib.hid hk
          have HS := Lib.hid hun
          clear hk hQ h98 h99 hsg hun
          cases fl
          all_goals
            go_enter Tryz.func39, Tryz.ntmps39
            go_wp2_with fail
            refine (bits_un c.toNat HS.out _).mono ?_
            rintro e w1 ⟨rfl, rfl⟩
            go_wp2_with fail
            all_goals go_ret
            all_goals exact ⟨_, rfl, HK.out _ (by simp), rfl⟩
        · have hk : ∀ bl : Bool, bl = false → Q bl := fun bl h => hQ bl fun e => absurd e (by rw [h]; decide)
          have HK := Lib.hid hk
          have HS := Lib.hid hsg
          have HU := Lib.hid hun
          clear hk hQ h98 h99 hsg hun
          go_enter Tryz.func39, Tryz.ntmps39
          go_wp2_with fail
          refine (bits_no c.toNat HS.out HU.out _).mono ?_
          rintro e w1 ⟨rfl, rfl⟩
          go_wp2_with fail
          all_goals go_ret
          all_goals exact ⟨_, rfl, HK.out _ rfl, rfl⟩
end Go.Proofs.YtlpbhfmhndhbkaaGreatDoor
