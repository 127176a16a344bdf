/- zzIndex of a byte that does not occur. -/
import Derived.Test.YtlpbhfmhndhbkaaGreatDoorBase
import Derived.Lib.SlicesS
namespace Go.Proofs.YtlpbhfmhndhbkaaGreatDoor
open Go.RowKit

set_option maxHeartbeats 2000000 in
set_option maxRecDepth 100000 in
theorem index_none (l : List UInt8) (c : UInt8) (hc : ∀ x ∈ l, x ≠ c) (hl : l.length ≤ 1000000000000) (w : World) :
    Calls Tryz.prog 62 #[.string (bs l), .string (bs [c])] w fun e w' => e = .returned (.int .i64 (-1)) ∧ w' = w := by
  have HC := Lib.hid hc
  clear hc
  go_enter Tryz.func62, Tryz.ntmps62
  go_wp2_with fail
  go_loop [5] (fun i => ∃ k : Nat, k ≤ l.length ∧ i = .int .i64 k) (fun i => l.length - (intOf i).toNat)
  case atStart => exact ⟨0, Nat.zero_le _, rfl⟩
  case round =>
    obtain ⟨k, hk, rfl⟩ := hrel
    by_cases hlt : k < l.length
    · have hs : (((bs l).extract k (k + 1)).toList == (bs [c]).toList) = false := by
        rw [Lib.bytes_beq_false_iff, bs_extract, show (l.drop k).take (k + 1 - k) = [l[k]] by rw [Nat.add_sub_cancel_left, List.drop_eq_getElem_cons hlt]; rfl]
        intro e
        have := bs_inj e
        simp at this
        exact HC.out _ (List.getElem_mem hlt) this
      go_wp2_with fail
      go_round
      case rel => exact ⟨k + 1, by omega, by go_num⟩
      case measure => simp [intOf]; omega
    · have hkn : k = l.length := by omega
      subst hkn
      go_wp2_with fail
      go_ret
      exact ⟨rfl, rfl⟩
end Go.Proofs.YtlpbhfmhndhbkaaGreatDoor
