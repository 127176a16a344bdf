/- Generic arguments of the crate m, read as a whole name. -/
import Derived.Test.YtlpbhfmhndhbkaaGreatDoorTold
import Derived.Test.YtlpbhfmhndhbkaaGreatDoorGArg
import Derived.Test.YtlpbhfmhndhbkaaGreatDoorPathA
import Derived.Test.YtlpbhfmhndhbkaaGreatDoorArgs
namespace Go.Proofs.YtlpbhfmhndhbkaaGreatDoor
open Go.RowKit

theorem path_m (lb : Nat) (sk : Bool) (k : List UInt8) : Says 83 #[.bool true] lb sk (67 :: 49 :: 109 :: k) k [109] NS := by
  have hu : Undis ([49] ++ ([] ++ (109 :: k))) ((109 :: k).drop 1) ((109 :: k).take 1) false := by
    refine undis_mk 1 [49] [] (109 :: k) (by simp) ?_ (by decide) ?_ (by simp) (by decide) (.inr ⟨rfl, ?_, ?_⟩)
    · intro c hc; simp at hc; subst hc; decide
    · intro j hj hj2
      obtain rfl : j = 0 := by omega
      exact .inr (.inr (.inl (by show 97 ≤ (109 : UInt8).toNat ∧ (109 : UInt8).toNat ≤ 122; decide)))
    · intro c hc; simp at hc; subst hc; decide
    · intro c hc; simp at hc; subst hc; decide
  have hn : Names (49 :: 109 :: k) k 0 [109] := by
    have := names_mk 0 _ _ _ _ hu (by decide) ⟨49, 109 :: k, rfl, by decide⟩
    simpa [dis] using this
  exact path_C true lb sk (49 :: 109 :: k) k [109] [109] 0 hn (by simp) (by decide) rfl

/-- The name of the crate m with generic arguments, spelled. -/
def nameOf (p : List UInt8) : List UInt8 := 95 :: 82 :: 73 :: 67 :: 49 :: 109 :: (p ++ [69])
/-- What is told of it. -/
def toldOf (t : List UInt8) : List UInt8 := [109, 58, 58, 60] ++ (t ++ [62])

theorem read_args (p txt : List UInt8) (ts : List (List UInt8)) (h : Run 120 0 false (p ++ [69]) [69] ts) (htxt : txt = joined [44, 32] ts) (hp : ∀ x ∈ p, x ≠ 46) (hl : p.length ≤ 10000000) (hl2 : txt.length ≤ 100000000) :
    ReadAs (nameOf p) (toldOf txt) := by
  intro B w hT hB
  refine toString_any 73 (67 :: 49 :: 109 :: (p ++ [69])) (toldOf txt) NS ?_ (by decide) ?_ (by simp; omega) (by simp [toldOf]) (by simp [toldOf]; omega) B w hT hB
  · refine path_I_true 0 false (67 :: 49 :: 109 :: (p ++ [69])) (p ++ [69]) [] [109] txt _ NS T0 (path_m 0 false (p ++ [69])) (genericArgs_any 0 false (p ++ [69]) [] txt ts h htxt) ?_
    simp [toldOf]
  · intro x hx
    simp only [List.mem_cons, List.mem_append, List.not_mem_nil, or_false] at hx
    rcases hx with rfl | rfl | rfl | rfl | rfl | rfl | hx | rfl
    all_goals first
      | decide
      | exact hp x hx
end Go.Proofs.YtlpbhfmhndhbkaaGreatDoor
