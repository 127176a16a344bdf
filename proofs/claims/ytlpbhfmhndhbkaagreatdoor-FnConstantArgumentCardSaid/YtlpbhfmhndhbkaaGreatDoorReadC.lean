/- A constant as a generic argument, read as a whole name. -/
import Derived.Test.YtlpbhfmhndhbkaaGreatDoorRead
import Derived.Test.YtlpbhfmhndhbkaaGreatDoorConst
import Derived.Test.YtlpbhfmhndhbkaaGreatDoorHex
namespace Go.Proofs.YtlpbhfmhndhbkaaGreatDoor
open Go.RowKit

theorem h16_no46 (n : Nat) : ∀ c ∈ h16 n, c ≠ 46 := by
  intro c hc e
  have := h16_is n c hc
  unfold is16 at this
  rw [e] at this
  exact absurd this (by decide)

theorem kind_letter {K : Nat} {c : UInt8} {n : Nat} {fl : Bool} (h : KindOk K c n fl) : c ≠ 46 := by
  intro e
  rw [e] at h
  unfold KindOk isSg isUn at h
  have h46 : (46 : UInt8).toNat = 46 := rfl
  rw [h46] at h
  omega

theorem read_num (K : Nat) (c : UInt8) (n : Nat) (fl : Bool) (hK : KindOk K c n fl) (hn : n < 18446744073709551616) :
    ReadAs (nameOf (75 :: c :: (negCode fl ++ (h16 n ++ [95])))) (toldOf (negText fl ++ constText K n)) := by
  have hl := h16_len n 15 (by omega)
  have hd := decDigits_le 19 n (by omega)
  have hc : (constText K n).length ≤ 20 := by
    unfold constText
    split
    · split <;> simp
    · split
      · simp
      · exact hd
  have hnc : (negCode fl).length ≤ 1 := by cases fl <;> simp [negCode]
  have hnt : (negText fl).length ≤ 1 := by cases fl <;> simp [negText]
  refine read_args _ _ [negText fl ++ constText K n] ?_ (by simp [joined, tailText]) ?_ (by simp; omega) (by simp; omega)
  · have h := const_num 0 false c n K fl hK hn [69] _ rfl
    have h2 := genericArg_K 0 false _ _ _ _ h
    have := Run.cons (f := 120) (lb := 0) (sk := false) 75 (c :: (negCode fl ++ (h16 n ++ 95 :: [69]))) [69] [69] (negText fl ++ constText K n) [] (by decide) h2 (Run.nil [])
    simpa using this
  · intro x hx
    simp only [List.mem_cons, List.mem_append, List.not_mem_nil, or_false] at hx
    rcases hx with rfl | rfl | hx | hx | rfl
    · decide
    · exact kind_letter hK
    · cases fl <;> simp [negCode] at hx
      subst hx; decide
    · exact h16_no46 n x hx
    · decide

theorem read_hole : ReadAs (nameOf [75, 112]) (toldOf [95]) := by
  refine read_args _ _ [[95]] ?_ (by simp [joined, tailText]) ?_ (by simp) (by simp)
  · have h := const_hole 0 false [69] _ rfl
    have h2 := genericArg_K 0 false _ _ _ _ h
    exact Run.cons (f := 120) (lb := 0) (sk := false) 75 [112, 69] [69] [69] [95] [] (by decide) h2 (Run.nil [])
  · intro x hx
    simp only [List.mem_cons, List.not_mem_nil, or_false] at hx
    rcases hx with rfl | rfl <;> decide
end Go.Proofs.YtlpbhfmhndhbkaaGreatDoor
