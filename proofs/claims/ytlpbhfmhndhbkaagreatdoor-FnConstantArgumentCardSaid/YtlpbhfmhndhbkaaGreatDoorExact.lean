/- isRustNumber, exactly. -/
import Derived.Test.YtlpbhfmhndhbkaaGreatDoorSpec0
namespace Go.Proofs.YtlpbhfmhndhbkaaGreatDoor
open Go.RowKit

instance (c : Nat) : Decidable (isSg c) := by unfold isSg; infer_instance
instance (c : Nat) : Decidable (isUn c) := by unfold isUn; infer_instance
def numOk (c n : Nat) (fl : Bool) : Bool :=
  if c = 98 then decide (n ≤ 1) && !fl else
  if c = 99 then decide (32 ≤ n) && (decide (n ≤ 126) && (!decide (n = 39) && (!decide (n = 34) && (!decide (n = 92) && !fl)))) else
  if isSg c then (if fl then decide (0 < n) && decide (n ≤ 2 ^ (sgBits c - 1)) else decide (n < 2 ^ (sgBits c - 1))) else
  if isUn c then !fl && (decide (unBits c = 64) || decide (n < 2 ^ unBits c)) else false

set_option maxHeartbeats 4000000 in
set_option maxRecDepth 100000 in
theorem number_exact (kd : Int) (c : UInt8) (nm : List UInt8) (n : Nat) (fl : Bool) (ks : Value) (hn : n < 18446744073709551616) (w : World) :
    Calls Tryz.prog 39 #[.agg (rv kd c nm n fl ks)] w fun e w' => e = .returned (.bool (numOk c.toNat n fl)) ∧ w.alloc (.cells (rv kd c nm n fl ks) 25) = w' := by
  obtain ⟨v, hv⟩ : ∃ v, numOk c.toNat n fl = v := ⟨_, rfl⟩
  rw [hv]
  by_cases h98 : c.toNat = 98
  · have e1 : (decide (n ≤ 1) && !fl) = v := by rw [← hv, numOk, if_pos h98]
    have HV := Lib.hid e1
    clear e1 hv
    by_cases h1 : n ≤ 1
    · cases fl
      all_goals
        go_enter Tryz.func39, Tryz.ntmps39
        go_wp2
        go_ret
        refine ⟨?_, rfl⟩
        rw [← HV.out]; simp <;> omega
    · have hd : decide ((n : Int) ≤ 1) = false := by simp; omega
      go_enter Tryz.func39, Tryz.ntmps39
      go_wp2
      go_ret
      refine ⟨?_, rfl⟩
      rw [← HV.out]; simp <;> omega
  · have h98' : ((c.toNat : Int) == 98) = false := by rw [beq_eq_false_iff_ne]; omega
    by_cases h99 : c.toNat = 99
    · have e1 : (decide (32 ≤ n) && (decide (n ≤ 126) && (!decide (n = 39) && (!decide (n = 34) && (!decide (n = 92) && !fl))))) = v := by rw [← hv, numOk, if_neg h98, if_pos h99]
      have HV := Lib.hid e1
      clear e1 hv h98
      by_cases h1 : 32 ≤ n
      · by_cases h2 : n ≤ 126
        · by_cases h3 : n = 39
          · subst h3
            go_enter Tryz.func39, Tryz.ntmps39
            go_wp2
            go_ret
            refine ⟨?_, rfl⟩
            rw [← HV.out]; simp
          · by_cases h4 : n = 34
            · subst h4
              go_enter Tryz.func39, Tryz.ntmps39
              go_wp2
              go_ret
              refine ⟨?_, rfl⟩
              rw [← HV.out]; simp
            · by_cases h5 : n = 92
              · subst h5
                go_enter Tryz.func39, Tryz.ntmps39
                go_wp2
                go_ret
                refine ⟨?_, rfl⟩
                rw [← HV.out]; simp
              · have e3 : ((n : Int) != 39) = true := by rw [bne_iff_ne]; omega
                have e4 : ((n : Int) != 34) = true := by rw [bne_iff_ne]; omega
                have e5 : ((n : Int) != 92) = true := by rw [bne_iff_ne]; omega
                cases fl
                all_goals
                  go_enter Tryz.func39, Tryz.ntmps39
                  go_wp2
                  go_ret
                  refine ⟨?_, rfl⟩
                  rw [← HV.out]; simp <;> omega
        · have hd : decide ((n : Int) ≤ 126) = false := by simp; omega
          go_enter Tryz.func39, Tryz.ntmps39
          go_wp2
          go_ret
          refine ⟨?_, rfl⟩
          rw [← HV.out]; simp <;> omega
      · have hd : decide ((32 : Int) ≤ n) = false := by simp; omega
        go_enter Tryz.func39, Tryz.ntmps39
        go_wp2
        go_ret
        refine ⟨?_, rfl⟩
        rw [← HV.out]; simp <;> omega
    · have h99' : ((c.toNat : Int) == 99) = false := by rw [beq_eq_false_iff_ne]; omega
      by_cases hsg : isSg c.toNat
      · have e1 : (if fl then decide (0 < n) && decide (n ≤ 2 ^ (sgBits c.toNat - 1)) else decide (n < 2 ^ (sgBits c.toNat - 1))) = v := by rw [← hv, numOk, if_neg h98, if_neg h99, if_pos hsg]
        have hb : sgBits c.toNat = 8 ∨ sgBits c.toNat = 16 ∨ sgBits c.toNat = 32 ∨ sgBits c.toNat = 64 := by
          unfold sgBits
          repeat' split
          all_goals simp
        have B := fun w => bits_sg c.toNat hsg w
        clear h98 h99 hsg
        rcases hb with hb | hb | hb | hb
        all_goals
          rw [hb] at e1
          simp only [hb] at B
          have BB := Lib.hid B
          have HV := Lib.hid e1
          clear B e1 hv hb
          cases fl
          all_goals
            go_enter Tryz.func39, Tryz.ntmps39
            go_wp2_with fail
            refine (BB.out _).mono ?_
            rintro e w1 ⟨rfl, rfl⟩
            go_wp2_with fail
            all_goals go_ret
            all_goals
              refine ⟨?_, rfl⟩
              rw [← HV.out]
              first | (simp <;> omega) | (simp; rw [Bool.eq_iff_iff]; simp; omega)
      · by_cases hun : isUn c.toNat
        · have e1 : (!fl && (decide (unBits c.toNat = 64) || decide (n < 2 ^ unBits c.toNat))) = v := by rw [← hv, numOk, if_neg h98, if_neg h99, if_neg hsg, if_pos hun]
          have hb : unBits c.toNat = 8 ∨ unBits c.toNat = 16 ∨ unBits c.toNat = 32 ∨ unBits c.toNat = 64 := by
            unfold unBits
            repeat' split
            all_goals simp
          have B := fun w => bits_un c.toNat hun w
          clear h98 h99 hsg hun
          rcases hb with hb | hb | hb | hb
          all_goals
            rw [hb] at e1
            simp only [hb] at B
            have BB := Lib.hid B
            have HV := Lib.hid e1
            clear B e1 hv hb
            cases fl
            all_goals
              go_enter Tryz.func39, Tryz.ntmps39
              go_wp2_with fail
              refine (BB.out _).mono ?_
              rintro e w1 ⟨rfl, rfl⟩
              go_wp2_with fail
              all_goals go_ret
              all_goals
                refine ⟨?_, rfl⟩
                rw [← HV.out]
                simp <;> omega
        · have e1 : false = v := by rw [← hv, numOk, if_neg h98, if_neg h99, if_neg hsg, if_neg hun]
          have HV := Lib.hid e1
          have HS := Lib.hid hsg
          have HU := Lib.hid hun
          clear e1 hv h98 h99 hsg hun
          go_enter Tryz.func39, Tryz.ntmps39
          go_wp2_with fail
          refine (bits_no c.toNat HS.out HU.out _).mono ?_
          rintro e w1 ⟨rfl, rfl⟩
          go_wp2_with fail
          all_goals go_ret
          all_goals
            refine ⟨?_, rfl⟩
            rw [← HV.out]
            rfl
end Go.Proofs.YtlpbhfmhndhbkaaGreatDoor
