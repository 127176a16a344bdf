/- rustHex. -/
import Derived.Test.YtlpbhfmhndhbkaaGreatDoorBase
import Derived.Test.YtlpbhfmhndhbkaaGreatDoorPure2
import Derived.BigQuiet
namespace Go.Proofs.YtlpbhfmhndhbkaaGreatDoor
open Go.RowKit

theorem hexDig_extract (n : Nat) (h : n < 16) : (⟨#[48, 49, 50, 51, 52, 53, 54, 55, 56, 57, 97, 98, 99, 100, 101, 102]⟩ : ByteArray).extract n (n + 1) = bs [dig16 n] := by
  show (bs [48, 49, 50, 51, 52, 53, 54, 55, 56, 57, 97, 98, 99, 100, 101, 102]).extract n (n + 1) = _
  rw [bs_extract]
  congr 1
  have : n = 0 ∨ n = 1 ∨ n = 2 ∨ n = 3 ∨ n = 4 ∨ n = 5 ∨ n = 6 ∨ n = 7 ∨ n = 8 ∨ n = 9 ∨ n = 10 ∨ n = 11 ∨ n = 12 ∨ n = 13 ∨ n = 14 ∨ n = 15 := by omega
  rcases this with rfl | rfl | rfl | rfl | rfl | rfl | rfl | rfl | rfl | rfl | rfl | rfl | rfl | rfl | rfl | rfl <;> decide
set_option maxHeartbeats 1000000 in
set_option maxRecDepth 100000 in
theorem hex_any (n : Nat) (hn : n < 18446744073709551616) (w : World) : Calls Tryz.prog 44 #[.int .u64 n] w fun e w' => e = .returned (.string (bs (h16 n))) ∧ ∃ m, w' = w.drewN m := by
  induction n using Nat.strongRecOn generalizing w with
  | _ n ih =>
    by_cases h : n < 16
    · have e1 := hexDig_extract n h
      have e2 : h16 n = [dig16 n] := by rw [h16, if_pos h]
      go_enter Tryz.func44, Tryz.ntmps44
      go_wp2
      go_ret
      refine ⟨?_, 0, rfl⟩
      rw [e2]
      rfl
    · have hd : decide ((n : Int) < 16) = false := by simp; omega
      have IH : ∀ w : World, Calls Tryz.prog 44 #[.int .u64 ((n : Int) / 16)] w fun e w' => e = .returned (.string (bs (h16 (n / 16)))) ∧ ∃ m, w' = w.drewN m := by
        intro w
        have := ih (n / 16) (by omega) (by omega) w
        rwa [show ((n / 16 : Nat) : Int) = (n : Int) / 16 by simp] at this
      have e1 := hexDig_extract (n % 16) (by omega)
      have e2 : h16 n = h16 (n / 16) ++ [dig16 (n % 16)] := by rw [h16, if_neg h]
      have q : IntKind.u64.wrap ((n : Int) / 16) = (n : Int) / 16 := IntWalk.u64_in _ (by omega)
      have q2 : IntKind.u64.wrap ((n : Int) % 16) = (n : Int) % 16 := IntWalk.u64_in _ (by omega)
      have q3 : IntKind.u64.wrap ((n : Int) % 16 + 1) = (n : Int) % 16 + 1 := IntWalk.u64_in _ (by omega)
      have q4 : ((n : Int) % 16).toNat = n % 16 := by omega
      have q5 : ((n : Int) % 16 + 1).toNat = n % 16 + 1 := by omega
      have q8 : (n : Int).tmod 16 = (n : Int) % 16 := IntWalk.rem_in _ _ (by omega)
      have q9 : (n : Int) % 16 ≤ (n : Int) % 16 + 1 := by omega
      have q10 : (n : Int) % 16 + 1 ≤ 16 := by omega
      have hl1 := h16_len (n / 16) 15 (by omega)
      have hl2 : (h16 (n / 16)).length + 1 ≤ maxLen := by unfold maxLen; omega
      have hl3 : (h16 (n / 16)).length + 1 ≤ 9223372036854775807 := by omega
      have q6 : 0 ≤ (n : Int) % 16 := by omega
      have q7 : (n : Int) % 16 ≤ 15 := by omega
      clear ih h hn
      go_enter Tryz.func44, Tryz.ntmps44
      go_wp2
      go_quiet (first | (go_at_call 44; refine Calls.quiet_of (IH _)))
      go_wp2
      go_ret
      refine ⟨?_, _, rfl⟩
      rw [e2, ← bs_append]
      rfl

theorem conv1 (w : World) (c : UInt8) (v : Int) (hv : v = c.toNat) :
    (convert 41 9 (.slice (some ⟨w.heap.size, 0, none⟩) 1 1)).run Tryz.prog (w.alloc (.cells #[.int .u8 v] 5)) = .ok (.string (bs [c])) (w.alloc (.cells #[.int .u8 v] 5)) := by
  subst hv
  refine run_convert_bytes_back _ _ _ 5 _ 1 [c] Tryz.underlying41 Tryz.underlying5 Tryz.underlying9 ?_
  intro i hi
  match i, hi with
  | 0, _ => simp [Addr.add]

theorem decDigits_le (k : Nat) : ∀ n, n < 10 ^ (k + 1) → (Lib.decDigits n).length ≤ k + 1 := by
  induction k with
  | zero => intro n h; rw [Lib.decDigits_length, Lib.nDigits_small (by simpa using h)]; exact Nat.le_refl _
  | succ k ih =>
    intro n h
    by_cases h1 : n < 10
    · rw [Lib.decDigits_length, Lib.nDigits_small h1]; omega
    · have := ih (n / 10) (by rw [Nat.pow_succ] at h; omega)
      rw [Lib.decDigits_length] at this ⊢
      rw [Lib.nDigits_big h1]; omega

set_option maxHeartbeats 1000000 in
set_option maxRecDepth 100000 in
/-- A number in decimal. -/
theorem decimal_text (n : Nat) (hn : n < 18446744073709551616) (w : World) : Calls Tryz.prog 30 #[.int .u64 n] w fun e w' => e = .returned (.string (bs (Lib.decDigits n))) ∧ Below w.heap.size w w' := by
  induction n using Nat.strongRecOn generalizing w with
  | _ n ih =>
    by_cases h : n < 10
    · obtain ⟨c, hc⟩ : ∃ c, c = UInt8.ofNat (48 + n) := ⟨_, rfl⟩
      have q := conv1 w c (48 + n) (by rw [hc, UInt8.toNat_ofNat_of_lt' (by show _ < 256; omega)]; simp)
      have e1 : Lib.decDigits n = [c] := by rw [hc]; exact Lib.decDigits_one h
      clear hn ih hc
      go_enter Tryz.func30, Tryz.ntmps30
      go_wp2
      go_ret
      refine ⟨?_, (Below.refl _ _).alloc (Nat.le_refl _) _⟩
      rw [e1]; rfl
    · have hd : decide ((n : Int) < 10) = false := by simp; omega
      have hl := decDigits_le 19 (n / 10) (by omega)
      have hl2 := decDigits_le 0 (n % 10) (by omega)
      have IH : ∀ w : World, Calls Tryz.prog 30 #[.int .u64 ((n : Int) / 10)] w fun e w' => e = .returned (.string (bs (Lib.decDigits (n / 10)))) ∧ Below w.heap.size w w' := by
        intro w
        have := ih (n / 10) (by omega) (by omega) w
        rwa [show ((n / 10 : Nat) : Int) = (n : Int) / 10 by simp] at this
      have IH2 : ∀ w : World, Calls Tryz.prog 30 #[.int .u64 ((n : Int) % 10)] w fun e w' => e = .returned (.string (bs (Lib.decDigits (n % 10)))) ∧ Below w.heap.size w w' := by
        intro w
        have := ih (n % 10) (by omega) (by omega) w
        rwa [show ((n % 10 : Nat) : Int) = (n : Int) % 10 by simp] at this
      have q : IntKind.u64.wrap ((n : Int) / 10) = (n : Int) / 10 := IntWalk.u64_in _ (by omega)
      have q2 : IntKind.u64.wrap ((n : Int) % 10) = (n : Int) % 10 := IntWalk.u64_in _ (by omega)
      have q8 : (n : Int).tmod 10 = (n : Int) % 10 := IntWalk.rem_in _ _ (by omega)
      have q9 : (n : Int).tdiv 10 = (n : Int) / 10 := by rw [Int.tdiv_eq_ediv_of_nonneg (by omega)]
      have e2 : Lib.decDigits n = Lib.decDigits (n / 10) ++ Lib.decDigits (n % 10) := by
        rw [Lib.decDigits, dif_neg h, Lib.decDigits_one (i := n % 10) (by omega)]
      obtain ⟨d1, h1⟩ : ∃ d, d = Lib.decDigits (n / 10) := ⟨_, rfl⟩
      obtain ⟨d2, h2⟩ : ∃ d, d = Lib.decDigits (n % 10) := ⟨_, rfl⟩
      rw [← h1, ← h2] at e2
      simp only [← h1] at IH hl
      simp only [← h2] at IH2 hl2
      have hm : d1.length + d2.length ≤ maxLen := by unfold maxLen; omega
      have J1 := Lib.hid IH
      have J2 := Lib.hid IH2
      have E2 := Lib.hid e2
      clear hn ih IH IH2 h1 h2 e2 h
      go_enter Tryz.func30, Tryz.ntmps30
      go_wp2_with (go_at_call 30; refine (J1.out _).mono ?_)
      rintro e w1 ⟨rfl, hb1⟩
      go_wp2_with (go_at_call 30; refine (J2.out _).mono ?_)
      rintro e w2 ⟨rfl, hb2⟩
      go_wp2
      go_ret
      refine ⟨?_, hb1.trans (hb2.mono hb1.size)⟩
      rw [E2.out, ← bs_append]; rfl
end Go.Proofs.YtlpbhfmhndhbkaaGreatDoor
