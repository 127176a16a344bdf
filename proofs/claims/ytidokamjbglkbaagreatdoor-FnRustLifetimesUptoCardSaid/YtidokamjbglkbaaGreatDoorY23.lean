/- rustBase62, rustDisambiguator, rustBinder. -/
import Derived.Test.YtidokamjbglkbaaGreatDoorY01
import Derived.Test.YtidokamjbglkbaaGreatDoorY02
import Derived.Test.YtidokamjbglkbaaGreatDoorY03
import Derived.Test.YtidokamjbglkbaaGreatDoorY04
import Derived.Deep.LoopGhost
namespace Go.Proofs.YtidokamjbglkbaaGreatDoor
open Go.RowKit

def digs62 : List UInt8 := [48, 49, 50, 51, 52, 53, 54, 55, 56, 57, 97, 98, 99, 100, 101, 102, 103, 104, 105, 106, 107, 108, 109, 110, 111, 112, 113, 114, 115, 116, 117, 118, 119, 120, 121, 122, 65, 66, 67, 68, 69, 70, 71, 72, 73, 74, 75, 76, 77, 78, 79, 80, 81, 82, 83, 84, 85, 86, 87, 88, 89, 90]
theorem digs62_at : ∀ i : Fin 62, (digs62.drop i.val).take 1 = [dig62 i.val] := by decide
theorem b62_extract (n : Nat) (h : n < 62) : (⟨#[48, 49, 50, 51, 52, 53, 54, 55, 56, 57, 97, 98, 99, 100, 101, 102, 103, 104, 105, 106, 107, 108, 109, 110, 111, 112, 113, 114, 115, 116, 117, 118, 119, 120, 121, 122, 65, 66, 67, 68, 69, 70, 71, 72, 73, 74, 75, 76, 77, 78, 79, 80, 81, 82, 83, 84, 85, 86, 87, 88, 89, 90]⟩ : ByteArray).extract n (n + 1) = bs [dig62 n] := by
  show (bs digs62).extract n (n + 1) = _
  rw [bs_extract, ← digs62_at ⟨n, h⟩, Nat.add_sub_cancel_left]

theorem e62_gt (n : Nat) : ∀ acc : List UInt8, acc.length < (e62 n acc).length := by
  induction n using Nat.strongRecOn with
  | _ n ih =>
    intro acc
    rw [e62]
    split
    · simp
    · have := ih (n / 62) (by omega) (dig62 (n % 62) :: acc)
      simp at this; omega

set_option maxHeartbeats 4000000 in
set_option maxRecDepth 100000 in
theorem base62_text (n : Nat) (hn : n ≤ 4611686018427387904) (w : World) : Calls Tryz.prog 25 #[.int .u64 n] w fun e w' => e = .returned (.string (bs (b62 n))) ∧ ∃ q, w' = w.drewN q := by
  by_cases h0 : n = 0
  · subst h0
    go_enter Tryz.func25, Tryz.ntmps25
    go_wp2
    go_ret
    exact ⟨rfl, 0, rfl⟩
  · obtain ⟨m, rfl⟩ : ∃ m, n = m + 1 := ⟨n - 1, by omega⟩
    have h0' : ((m : Int) + 1 == 0) = false := by rw [beq_eq_false_iff_ne]; omega
    go_enter Tryz.func25, Tryz.ntmps25
    go_wp2_with fail
    go_loopg [0, 3] m (fun g k s wr => ∃ (j : Nat) (acc : List UInt8), j = g ∧ k = .int .u64 j ∧ s = .string (bs acc) ∧ e62 j acc = e62 m [] ∧ j ≤ m ∧ ∃ q, wr = w.drewN q)
    case atStart => exact ⟨m, [], rfl, by go_num, rfl, rfl, Nat.le_refl _, 0, rfl⟩
    case round =>
      obtain ⟨j, acc, rfl, rfl, rfl, he, hj, q, rfl⟩ := hrel
      have hac : acc.length ≤ 12 := by
        have h1 := e62_gt j acc
        have h2 := e62_len m [] (by omega)
        rw [he] at h1
        simp at h2; omega
      by_cases hlt : j < 62
      · have hd : decide ((62 : Int) ≤ (j : Int)) = false := by simp; omega
        have e1 := b62_extract j hlt
        have hb : b62 (m + 1) = dig62 j :: acc ++ [95] := by
          unfold b62
          rw [if_neg (by omega), Nat.add_sub_cancel, ← he, e62, if_pos hlt]
        have HB := Lib.hid hb
        have e2 : bs [dig62 j] ++ bs acc = bs (dig62 j :: acc) := bs_append _ _
        have hl1 : ¬ 9223372036854775807 < 1 + acc.length := by omega
        have hl2 : ¬ 9223372036854775807 < acc.length + 1 + 1 := by omega
        clear he hb
        go_wp2
        go_ret
        refine ⟨?_, q, rfl⟩
        rw [HB.out, ← bs_append]
        rfl
      · have hd : decide ((62 : Int) ≤ (j : Int)) = true := by simp; omega
        have e1 := b62_extract (j % 62) (by omega)
        have q8 : (j : Int).tmod 62 = (j : Int) % 62 := IntWalk.rem_in _ _ (by omega)
        have q9 : (j : Int).tdiv 62 = (j : Int) / 62 := by rw [Int.tdiv_eq_ediv_of_nonneg (by omega)]
        have q1 : IntKind.u64.wrap ((j : Int) / 62) = (j : Int) / 62 := IntWalk.u64_in _ (by omega)
        have q2 : IntKind.u64.wrap ((j : Int) % 62) = (j : Int) % 62 := IntWalk.u64_in _ (by omega)
        have q3 : IntKind.u64.wrap ((j : Int) % 62 + 1) = (j : Int) % 62 + 1 := IntWalk.u64_in _ (by omega)
        have q4 : ((j : Int) % 62).toNat = j % 62 := by omega
        have q5 : ((j : Int) % 62 + 1).toNat = j % 62 + 1 := by omega
        have e2 : bs [dig62 (j % 62)] ++ bs acc = bs (dig62 (j % 62) :: acc) := bs_append _ _
        have hl1 : ¬ 9223372036854775807 < 1 + acc.length := by omega
        have REL := Lib.hid (show e62 (j / 62) (dig62 (j % 62) :: acc) = e62 m [] by rw [← he]; conv => rhs; rw [e62, if_neg hlt])
        clear he
        go_wp2
        go_roundg (j / 62)
        case measure => omega
        case rel => exact ⟨j / 62, dig62 (j % 62) :: acc, rfl, by simp, by rw [← e2], REL.out, by omega, q, rfl⟩

set_option maxHeartbeats 2000000 in
set_option maxRecDepth 100000 in
theorem disamb_text (n : Nat) (hn : n ≤ 4611686018427387904) (w : World) : Calls Tryz.prog 61 #[.int .u64 n] w fun e w' => e = .returned (.string (bs (dis n))) ∧ ∃ q, w' = w.drewN q := by
  by_cases h0 : n = 0
  · subst h0
    go_enter Tryz.func61, Tryz.ntmps61
    go_wp2
    go_ret
    exact ⟨rfl, 0, rfl⟩
  · obtain ⟨m, rfl⟩ : ∃ m, n = m + 1 := ⟨n - 1, by omega⟩
    have h0' : ((m : Int) + 1 == 0) = false := by rw [beq_eq_false_iff_ne]; omega
    have HB := Lib.hid (fun w => base62_text m (by omega) w)
    have hl := b62_len m (by omega)
    have hl1 : ¬ 9223372036854775807 < 1 + (b62 m).length := by omega
    have e1 : (⟨#[115]⟩ : ByteArray) ++ bs (b62 m) = bs (115 :: b62 m) := bs_append [115] _
    have e2 : dis (m + 1) = 115 :: b62 m := by unfold dis; rw [if_neg (by omega), Nat.add_sub_cancel]
    rw [e2]
    clear e2
    go_enter Tryz.func61, Tryz.ntmps61
    go_wp2_with (go_at_call 25; refine (HB.out _).mono ?_; rintro e w1 ⟨rfl, q, rfl⟩)
    go_ret
    exact ⟨by rw [← e1]; rfl, q, rfl⟩

set_option maxHeartbeats 2000000 in
set_option maxRecDepth 100000 in
theorem binder_text (n : Nat) (hn : n ≤ 4611686018427387904) (w : World) : Calls Tryz.prog 78 #[.int .u64 n] w fun e w' => e = .returned (.string (bs (binder n))) ∧ ∃ q, w' = w.drewN q := by
  by_cases h0 : n = 0
  · subst h0
    go_enter Tryz.func78, Tryz.ntmps78
    go_wp2
    go_ret
    exact ⟨rfl, 0, rfl⟩
  · obtain ⟨m, rfl⟩ : ∃ m, n = m + 1 := ⟨n - 1, by omega⟩
    have h0' : ((m : Int) + 1 == 0) = false := by rw [beq_eq_false_iff_ne]; omega
    have HB := Lib.hid (fun w => base62_text m (by omega) w)
    have hl := b62_len m (by omega)
    have hl1 : ¬ 9223372036854775807 < 1 + (b62 m).length := by omega
    have e1 : (⟨#[71]⟩ : ByteArray) ++ bs (b62 m) = bs (71 :: b62 m) := bs_append [71] _
    have e2 : binder (m + 1) = 71 :: b62 m := by unfold binder; rw [if_neg (by omega), Nat.add_sub_cancel]
    rw [e2]
    clear e2
    go_enter Tryz.func78, Tryz.ntmps78
    go_wp2_with (go_at_call 25; refine (HB.out _).mono ?_; rintro e w1 ⟨rfl, q, rfl⟩)
    go_ret
    exact ⟨by rw [← e1]; rfl, q, rfl⟩
end Go.Proofs.YtidokamjbglkbaaGreatDoor

/- idThreshold, idAdapted, idLetter, idDelta. -/
namespace Go.Proofs.YtidokamjbglkbaaGreatDoor
open Go.RowKit

set_option maxHeartbeats 1000000 in
theorem thr_any (p b : Nat) (hp : p ≤ 1000000) (hb : b ≤ 1000000) (w : World) : Calls Tryz.prog 115 #[.int .i64 p, .int .i64 b] w fun e w' => e = .returned (.int .i64 (thr p b)) ∧ w = w' := by
  by_cases h1 : 36 * p ≤ b
  · have e1 : 36 * (p : Int) - (b : Int) < 1 := by omega
    have e2 : ((thr p b : Nat) : Int) = 1 := by unfold thr; omega
    rw [e2]
    clear h1 e2
    go_enter Tryz.func115, Tryz.ntmps115
    go_wp2
    all_goals first
      | (exfalso; omega)
      | (go_ret; first | exact ⟨rfl, rfl⟩ | exact ⟨congrArg (fun x : Int => Ending.returned (Value.int .i64 x)) (show min (max (36 * (p : Int) - (b : Int)) 1) 26 = 1 by omega), rfl⟩)
  · have e1 : ¬ 36 * (p : Int) - (b : Int) < 1 := by omega
    by_cases h2 : 36 * p - b ≤ 26
    · have e3 : ¬ 26 < 36 * (p : Int) - (b : Int) := by omega
      have e2 : ((thr p b : Nat) : Int) = 36 * (p : Int) - (b : Int) := by unfold thr; omega
      rw [e2]
      clear h1 e2 h2
      go_enter Tryz.func115, Tryz.ntmps115
      go_wp2
      all_goals first
        | (exfalso; omega)
        | (go_ret; first | exact ⟨rfl, rfl⟩ | exact ⟨congrArg (fun x : Int => Ending.returned (Value.int .i64 x)) (show min (max (36 * (p : Int) - (b : Int)) 1) 26 = 36 * (p : Int) - (b : Int) by omega), rfl⟩)
    · have e3 : 26 < 36 * (p : Int) - (b : Int) := by omega
      have e2 : ((thr p b : Nat) : Int) = 26 := by unfold thr; omega
      rw [e2]
      clear h1 e2 h2
      go_enter Tryz.func115, Tryz.ntmps115
      go_wp2
      all_goals first
        | (exfalso; omega)
        | (go_ret; first | exact ⟨rfl, rfl⟩ | exact ⟨congrArg (fun x : Int => Ending.returned (Value.int .i64 x)) (show min (max (36 * (p : Int) - (b : Int)) 1) 26 = 26 by omega), rfl⟩)

theorem adaptD_le (d m : Nat) (f : Bool) (hd : d ≤ 100000000) : adaptD d m f ≤ 100000000 := by
  unfold adaptD
  have : ∀ x : Nat, x / m ≤ x := fun x => Nat.div_le_self _ _
  cases f
  · have := this (d / 2); simp; omega
  · have := this (d / 700); simp; omega
/-- How many rounds a bias takes. -/
theorem adaptK_step (d k : Nat) (h : 455 < d) : adaptK d k = adaptK (d / 35) (k + 36) := by conv => lhs; rw [adaptK, if_pos h]

set_option maxHeartbeats 2000000 in
set_option maxRecDepth 100000 in
theorem adapt_any (d m : Nat) (f : Bool) (hd : d ≤ 100000000) (hm : 1 ≤ m ∧ m ≤ 100000) (w : World) : Calls Tryz.prog 98 #[.int .i64 d, .int .i64 m, .bool f] w fun e w' => e = .returned (.int .i64 (adapt d m f)) ∧ w = w' := by
  obtain ⟨D, hD⟩ : ∃ D, adaptD d m f = D := ⟨_, rfl⟩
  have hDl := adaptD_le d m f hd
  rw [hD] at hDl
  have ea : adapt d m f = adaptK D 0 := by unfold adapt; rw [hD]
  rw [ea]
  obtain ⟨x, hx⟩ : ∃ x, (if f then d / 700 else d / 2) = x := ⟨_, rfl⟩
  have hxl : x ≤ 100000000 := by rw [← hx]; split <;> omega
  have hDx : (x : Int) + (x : Int) / (m : Int) = (D : Int) := by rw [← hD]; unfold adaptD; rw [hx]; simp
  have q1 : (d : Int).tdiv 700 = (d : Int) / 700 := by rw [Int.tdiv_eq_ediv_of_nonneg (by omega)]
  have q2 : (d : Int).tdiv 2 = (d : Int) / 2 := by rw [Int.tdiv_eq_ediv_of_nonneg (by omega)]
  have q3 : (x : Int).tdiv (m : Int) = (x : Int) / (m : Int) := by rw [Int.tdiv_eq_ediv_of_nonneg (by omega)]
  have hm0 : ((m : Int) == 0) = false := by rw [beq_eq_false_iff_ne]; omega
  have hdx1 : f = true → (d : Int) / 700 = (x : Int) := by intro h; rw [← hx, h]; simp
  have hdx2 : f = false → (d : Int) / 2 = (x : Int) := by intro h; rw [← hx, h]; simp
  have hq4 : 0 ≤ (x : Int) / (m : Int) := Int.ediv_nonneg (by omega) (by omega)
  clear ea hD hx
  cases f
  · have q5 := hdx2 rfl
    rw [q5] at q2
    clear hdx1 hdx2 q1 q5
    go_enter Tryz.func98, Tryz.ntmps98
    go_wp2_with fail
    go_loopg [0, 7] D (fun g dv kv wr => ∃ d k : Nat, d = g ∧ dv = .int .i64 d ∧ kv = .int .i64 k ∧ adaptK d k = adaptK D 0 ∧ k + d ≤ D ∧ wr = w)
    case atStart => exact ⟨D, 0, rfl, rfl, rfl, rfl, by omega, rfl⟩
    case round =>
      obtain ⟨d, k, rfl, rfl, rfl, he, hk, rfl⟩ := hrel
      by_cases hlt : 455 < d
      · have hd' : decide ((455 : Int) < (d : Int)) = true := by simp; omega
        have q8 : (d : Int).tdiv 35 = ((d / 35 : Nat) : Int) := by rw [Int.tdiv_eq_ediv_of_nonneg (by omega)]; simp
        have REL := Lib.hid (show adaptK (d / 35) (k + 36) = adaptK D 0 by rw [← he, adaptK_step d k hlt])
        clear he
        go_wp2
        go_roundg (d / 35)
        case measure => omega
        case rel => exact ⟨d / 35, k + 36, rfl, rfl, by go_num, REL.out, by omega, rfl⟩
      · have hd' : decide ((455 : Int) < (d : Int)) = false := by simp; omega
        have q8 : (36 * (d : Int)).tdiv ((d : Int) + 38) = ((36 * d / (d + 38) : Nat) : Int) := by rw [Int.tdiv_eq_ediv_of_nonneg (by omega)]; simp
        have q9 : ((d : Int) + 38 == 0) = false := by rw [beq_eq_false_iff_ne]; omega
        have hle : 36 * d / (d + 38) ≤ 36 * d := Nat.div_le_self _ _
        have hfin : adaptK D 0 = k + 36 * d / (d + 38) := by rw [← he, adaptK, if_neg hlt]
        obtain ⟨z, hz⟩ : ∃ z, 36 * d / (d + 38) = z := ⟨_, rfl⟩
        rw [hz] at q8 hle hfin
        have HF := Lib.hid hfin
        clear he hfin hz
        go_wp2
        go_ret
        exact ⟨by rw [HF.out]; rfl, rfl⟩
  · have q5 := hdx1 rfl
    rw [q5] at q1
    clear hdx1 hdx2 q2 q5
    go_enter Tryz.func98, Tryz.ntmps98
    go_wp2_with fail
    go_loopg [0, 7] D (fun g dv kv wr => ∃ d k : Nat, d = g ∧ dv = .int .i64 d ∧ kv = .int .i64 k ∧ adaptK d k = adaptK D 0 ∧ k + d ≤ D ∧ wr = w)
    case atStart => exact ⟨D, 0, rfl, rfl, rfl, rfl, by omega, rfl⟩
    case round =>
      obtain ⟨d, k, rfl, rfl, rfl, he, hk, rfl⟩ := hrel
      by_cases hlt : 455 < d
      · have hd' : decide ((455 : Int) < (d : Int)) = true := by simp; omega
        have q8 : (d : Int).tdiv 35 = ((d / 35 : Nat) : Int) := by rw [Int.tdiv_eq_ediv_of_nonneg (by omega)]; simp
        have REL := Lib.hid (show adaptK (d / 35) (k + 36) = adaptK D 0 by rw [← he, adaptK_step d k hlt])
        clear he
        go_wp2
        go_roundg (d / 35)
        case measure => omega
        case rel => exact ⟨d / 35, k + 36, rfl, rfl, by go_num, REL.out, by omega, rfl⟩
      · have hd' : decide ((455 : Int) < (d : Int)) = false := by simp; omega
        have q8 : (36 * (d : Int)).tdiv ((d : Int) + 38) = ((36 * d / (d + 38) : Nat) : Int) := by rw [Int.tdiv_eq_ediv_of_nonneg (by omega)]; simp
        have q9 : ((d : Int) + 38 == 0) = false := by rw [beq_eq_false_iff_ne]; omega
        have hle : 36 * d / (d + 38) ≤ 36 * d := Nat.div_le_self _ _
        have hfin : adaptK D 0 = k + 36 * d / (d + 38) := by rw [← he, adaptK, if_neg hlt]
        obtain ⟨z, hz⟩ : ∃ z, 36 * d / (d + 38) = z := ⟨_, rfl⟩
        rw [hz] at q8 hle hfin
        have HF := Lib.hid hfin
        clear he hfin hz
        go_wp2
        go_ret
        exact ⟨by rw [HF.out]; rfl, rfl⟩

theorem letter_at : ∀ i : Fin 36, (([97, 98, 99, 100, 101, 102, 103, 104, 105, 106, 107, 108, 109, 110, 111, 112, 113, 114, 115, 116, 117, 118, 119, 120, 121, 122, 48, 49, 50, 51, 52, 53, 54, 55, 56, 57] : List UInt8).drop i.val).take 1 = [letter i.val] := by decide
theorem letter_extract (n : Nat) (h : n < 36) : (⟨#[97, 98, 99, 100, 101, 102, 103, 104, 105, 106, 107, 108, 109, 110, 111, 112, 113, 114, 115, 116, 117, 118, 119, 120, 121, 122, 48, 49, 50, 51, 52, 53, 54, 55, 56, 57]⟩ : ByteArray).extract n (n + 1) = bs [letter n] := by
  show (bs [97, 98, 99, 100, 101, 102, 103, 104, 105, 106, 107, 108, 109, 110, 111, 112, 113, 114, 115, 116, 117, 118, 119, 120, 121, 122, 48, 49, 50, 51, 52, 53, 54, 55, 56, 57]).extract n (n + 1) = _
  rw [bs_extract, ← letter_at ⟨n, h⟩, Nat.add_sub_cancel_left]
set_option maxRecDepth 100000 in
theorem letter_any (n : Nat) (h : n < 36) (w : World) : Calls Tryz.prog 116 #[.int .i64 n] w fun e w' => e = .returned (.string (bs [letter n])) ∧ w = w' := by
  have e1 := letter_extract n h
  go_enter Tryz.func116, Tryz.ntmps116
  go_wp2
  go_ret
  exact ⟨rfl, rfl⟩
end Go.Proofs.YtidokamjbglkbaaGreatDoor

/- idDelta. -/
namespace Go.Proofs.YtidokamjbglkbaaGreatDoor
open Go.RowKit

theorem digitsOf_end {bias delta place : Nat} (h : delta < thr place bias) : digitsOf bias delta place = [delta] := by rw [digitsOf, dif_pos h]
theorem digitsOf_step {bias delta place : Nat} (h : ¬ delta < thr place bias) : digitsOf bias delta place = (thr place bias + (delta - thr place bias) % (36 - thr place bias)) :: digitsOf bias ((delta - thr place bias) / (36 - thr place bias)) (place + 1) := by
  conv => lhs; rw [digitsOf, dif_neg h]

set_option maxHeartbeats 4000000 in
set_option maxRecDepth 100000 in
theorem delta_any (delta bias : Nat) (hd : delta ≤ 68000000) (hb : bias ≤ 1000) (w : World) : Calls Tryz.prog 97 #[.int .i64 delta, .int .i64 bias] w fun e w' => e = .returned (.string (bs (wdelta bias delta))) ∧ ∃ q, w' = w.drewN q := by
  have hlen : (wdelta bias delta).length ≤ 9 := wdelta_len bias delta hd
  obtain ⟨D, hD⟩ : ∃ D, wdelta bias delta = D := ⟨_, rfl⟩
  rw [hD] at hlen ⊢
  have HT := Lib.hid (fun p hp w => thr_any p bias hp (by omega) w)
  have HL := Lib.hid (fun n h w => letter_any n h w)
  have H0 := Lib.hid hD
  clear hD
  go_enter Tryz.func97, Tryz.ntmps97
  go_wp2_with fail
  go_loopg [0, 5, 6, 7] delta (fun g dv tv pv _ wr => ∃ (d p : Nat) (acc : List UInt8), d = g ∧ dv = .int .i64 d ∧ tv = .string (bs acc) ∧ pv = .int .i64 p ∧ acc ++ (digitsOf bias d p).map letter = D ∧ p = acc.length + 1 ∧ d ≤ 68000000 ∧ ∃ q, wr = w.drewN q)
  case atStart => exact ⟨delta, 1, [], rfl, rfl, rfl, rfl, by rw [← H0.out]; rfl, rfl, hd, 0, rfl⟩
  case round =>
    obtain ⟨d, p, acc, rfl, rfl, rfl, rfl, he, hp, hdl, q, rfl⟩ := hrel
    have hacc : acc.length ≤ 9 := by have := congrArg List.length he; simp at this; omega
    have hpl : p ≤ 10 := by omega
    have HP := Lib.hid hp
    clear hp
    obtain ⟨t, ht⟩ : ∃ t, thr p bias = t := ⟨_, rfl⟩
    have ht1 := thr_ge p bias
    have ht2 := thr_le p bias
    rw [ht] at ht1 ht2
    have HTP : Hid (∀ w, Calls Tryz.prog 115 #[.int .i64 p, .int .i64 bias] w fun e w' => e = .returned (.int .i64 t) ∧ w = w') := Lib.hid (by
      intro w; have := HT.out p (by omega) w; rwa [ht] at this)
    by_cases hlt : d < t
    · have hd' : decide ((d : Int) < (t : Int)) = true := by simp; omega
      have he2 : bs acc ++ bs [letter d] = bs D := by rw [bs_append, ← he, digitsOf_end (by rw [ht]; exact hlt)]; rfl
      have HE := Lib.hid he2
      have hl1 : ¬ 9223372036854775807 < acc.length + 1 := by omega
      clear he ht he2
      go_wp2_with (first
        | (go_at_call 115; refine (HTP.out _).mono ?_; rintro e w1 ⟨rfl, rfl⟩)
        | (go_at_call 116; refine (HL.out d (by omega) _).mono ?_; rintro e w1 ⟨rfl, rfl⟩))
      go_ret
      exact ⟨congrArg (fun b => Ending.returned (.string b)) HE.out, q, rfl⟩
    · have hd' : decide ((d : Int) < (t : Int)) = false := by simp; omega
      obtain ⟨u, hu⟩ : ∃ u, 36 - t = u := ⟨_, rfl⟩
      obtain ⟨x, hx⟩ : ∃ x, d - t = x := ⟨_, rfl⟩
      have hst := digitsOf_step (bias := bias) (delta := d) (place := p) (by rw [ht]; exact hlt)
      rw [ht, hu, hx] at hst
      have e1 : (d : Int) - (t : Int) = (x : Int) := by omega
      have e2 : 36 - (t : Int) = (u : Int) := by omega
      have hu0 : 1 ≤ u := by omega
      have hmod : x % u < u := Nat.mod_lt _ (by omega)
      have hdiv : x / u ≤ x := Nat.div_le_self _ _
      have q1 : (x : Int).tmod (u : Int) = ((x % u : Nat) : Int) := by rw [IntWalk.rem_in _ _ (by omega)]; simp
      have q2 : (x : Int).tdiv (u : Int) = ((x / u : Nat) : Int) := by rw [Int.tdiv_eq_ediv_of_nonneg (by omega)]; simp
      have q3 : ((u : Int) == 0) = false := by rw [beq_eq_false_iff_ne]; omega
      have hxlt : x < d := by omega
      obtain ⟨y, hy⟩ : ∃ y, x % u = y := ⟨_, rfl⟩
      obtain ⟨z, hz⟩ : ∃ z, x / u = z := ⟨_, rfl⟩
      rw [hy] at hmod q1 hst
      rw [hz] at hdiv q2 hst
      have REL := Lib.hid (show (acc ++ [letter (t + y)]) ++ (digitsOf bias z (p + 1)).map letter = D by rw [← he, hst]; simp)
      have e5 : bs acc ++ bs [letter (t + y)] = bs (acc ++ [letter (t + y)]) := bs_append _ _
      have hl1 : ¬ 9223372036854775807 < acc.length + 1 := by omega
      clear he ht hst hu hx hy hz
      go_wp2_with (first
        | (go_at_call 115; refine (HTP.out _).mono ?_; rintro e w1 ⟨rfl, rfl⟩)
        | (go_at_call 116; refine (HL.out (t + y) (by omega) _).mono ?_; rintro e w1 ⟨rfl, rfl⟩))
      go_roundg z
      case measure => omega
      case rel => exact ⟨z, p + 1, acc ++ [letter (t + y)], rfl, rfl, by rw [← e5], by go_num, REL.out, by have := HP.out; simp; omega, by omega, q, rfl⟩
end Go.Proofs.YtidokamjbglkbaaGreatDoor

/- idNext. -/
namespace Go.Proofs.YtidokamjbglkbaaGreatDoor
open Go.RowKit

/-- Numbers that lie in a row. -/
def RowAt (w : World) (g : Nat) (L : List Nat) : Prop := ∀ j (h : j < L.length), w.cell? ⟨g, j, none⟩ = some (.int .i64 (L[j] : Nat))
theorem RowAt.of_own {w : World} {B g cap : Nat} {L : List Nat} (h : w.ownsRow B tInt 1 (.slice (some ⟨g, 0, none⟩) L.length cap) L.length (cv L)) : RowAt w g L := by
  intro j hj
  have := h.cells (g := g) rfl j (.int .i64 (L[j] : Nat)) (by simp [cv, hj])
  rw [Go.WideShapes.add_plain] at this
  simpa using this
theorem RowAt.drewN {w : World} {g : Nat} {L : List Nat} (h : RowAt w g L) (q : Nat) : RowAt (w.drewN q) g L := h

def nextZ (nx : Option Nat) : Int := match nx with | none => -1 | some y => y

set_option maxHeartbeats 4000000 in
set_option maxRecDepth 100000 in
theorem next_any (g cap : Nat) (L : List Nat) (least : Nat) (hL : L.length ≤ 1000) (hb : ∀ x ∈ L, x ≤ 1114111) (_ : least ≤ 1200000) (w : World) (hR : RowAt w g L) :
    Calls Tryz.prog 96 #[.slice (some ⟨g, 0, none⟩) L.length cap, .int .i64 least] w fun e w' => e = .returned (.int .i64 (nextZ (nextOf L least))) ∧ w = w' := by
  have HR := Lib.hid hR
  have HB := Lib.hid hb
  obtain ⟨N, hN⟩ : ∃ N, nextOf L least = N := ⟨_, rfl⟩
  rw [hN]
  unfold nextOf at hN
  have HN := Lib.hid hN
  clear hN hR hb
  go_enter Tryz.func96, Tryz.ntmps96
  go_wp2_with fail
  go_loopg [5, 7, 10] L.length (fun n xv _ i wr => ∃ (j : Nat) (nx : Option Nat), n = L.length - j ∧ j ≤ L.length ∧ i = .int .i64 j ∧ xv = .int .i64 (nextZ nx) ∧ (L.take j).foldl (nextF least) none = nx ∧ (∀ y, nx = some y → y ≤ 1114111) ∧ wr = w)
  case atStart => exact ⟨0, none, by omega, Nat.zero_le _, rfl, rfl, rfl, fun y h => (by cases h), rfl⟩
  case round =>
    obtain ⟨j, nx, rfl, hj, rfl, rfl, hf, hnb, rfl⟩ := hrel
    by_cases hlt : j < L.length
    · have hcell := HR.out j hlt
      have hcb := HB.out _ (List.getElem_mem hlt)
      have hst : (L.take (j + 1)).foldl (nextF least) none = nextF least nx L[j] := by rw [List.take_succ_eq_append_getElem hlt, List.foldl_append, hf]; rfl
      obtain ⟨c, hc⟩ : ∃ c, L[j] = c := ⟨_, rfl⟩
      rw [hc] at hcell hcb hst
      clear hc hf
      have HST := Lib.hid hst
      clear hst
      by_cases h1 : least ≤ c
      · have f1 : decide ((least : Int) ≤ (c : Int)) = true := by simp; omega
        cases nx with
        | none =>
          have f2 : nextZ none = -1 := rfl
          have REL := Lib.hid (show (L.take (j + 1)).foldl (nextF least) none = some c by rw [HST.out]; simp [nextF, h1])
          rw [f2]
          clear hnb
          go_wp2
          go_roundg (L.length - (j + 1))
          case measure => omega
          case rel => exact ⟨j + 1, some c, rfl, by omega, by go_num, rfl, REL.out, fun y h => by cases h; exact hcb, rfl⟩
        | some y =>
          have hy := hnb y rfl
          have f2 : nextZ (some y) = (y : Int) := rfl
          by_cases h2 : c < y
          · have f3 : decide ((c : Int) < (y : Int)) = true := by simp; omega
            have REL := Lib.hid (show (L.take (j + 1)).foldl (nextF least) none = some c by rw [HST.out]; simp [nextF, h1, h2])
            rw [f2]
            clear hnb
            go_wp2
            go_roundg (L.length - (j + 1))
            case measure => omega
            case rel => exact ⟨j + 1, some c, rfl, by omega, by go_num, rfl, REL.out, fun y h => by cases h; exact hcb, rfl⟩
          · have f3 : decide ((c : Int) < (y : Int)) = false := by simp; omega
            have REL := Lib.hid (show (L.take (j + 1)).foldl (nextF least) none = some y by rw [HST.out]; simp [nextF, h1, h2])
            rw [f2]
            clear hnb
            go_wp2
            go_roundg (L.length - (j + 1))
            case measure => omega
            case rel => exact ⟨j + 1, some y, rfl, by omega, by go_num, rfl, REL.out, fun y h => by cases h; exact hy, rfl⟩
      · have f1 : decide ((least : Int) ≤ (c : Int)) = false := by simp; omega
        have REL := Lib.hid (show (L.take (j + 1)).foldl (nextF least) none = nx by rw [HST.out]; simp [nextF, h1])
        have HNB := Lib.hid hnb
        clear hnb
        go_wp2
        go_roundg (L.length - (j + 1))
        case measure => omega
        case rel => exact ⟨j + 1, nx, rfl, by omega, by go_num, rfl, REL.out, HNB.out, rfl⟩
    · have hjl : j = L.length := by omega
      subst hjl
      rw [List.take_length, HN.out] at hf
      subst hf
      clear hnb
      go_wp2
      go_ret
      exact ⟨rfl, rfl⟩
end Go.Proofs.YtidokamjbglkbaaGreatDoor

