/- The letters of bound lifetimes; a type of functions with such, as it lies. -/
import Derived.Test.YtidokamjbglkbaaGreatDoorY36
import Derived.Test.YtidokamjbglkbaaGreatDoorY14
namespace Go.Proofs.YtidokamjbglkbaaGreatDoor
open Go.RowKit

/-- The first j letters, told. -/
def letters (j : Nat) : List UInt8 := joined [44, 32] (forNames 0 j)
theorem letters_zero : letters 0 = [] := rfl
theorem letters_one : letters (0 + 1) = [39, UInt8.ofNat (97 + 0)] := by
  simp [letters, forNames, List.range_succ, joined, tailText, lifeText]
theorem letters_succ (j : Nat) (h : j ≠ 0) : letters (j + 1) = letters j ++ ([44, 32] ++ [39, UInt8.ofNat (97 + j)]) := by
  have e : forNames 0 (j + 1) = forNames 0 j ++ [[39, UInt8.ofNat (97 + j)]] := by
    simp [forNames, List.range_succ, lifeText]
  have hn : ¬ forNames 0 j = [] := by
    intro h0
    have := congrArg List.length h0
    simp [forNames] at this
    exact h this
  unfold letters
  rw [e, joined_snoc, if_neg hn]
theorem letters_len (j : Nat) : (letters j).length ≤ 4 * j := by
  induction j with
  | zero => exact Nat.le_refl _
  | succ j ih =>
    by_cases h : j = 0
    · subst h; rw [letters_one]; simp
    · rw [letters_succ j h]; simp only [List.length_append, List.length_cons, List.length_nil]; omega
theorem life_one (cnt idx : Nat) (h : idx ≠ 0) : lifeText cnt idx = [39, UInt8.ofNat (97 + (cnt - idx))] := by
  unfold lifeText; rw [if_neg h]
theorem ltr_nat (j : Nat) (h : j ≤ 30) : ((97 : Int) + (j : Int)) = ((UInt8.ofNat (97 + j)).toNat : Int) := by
  rw [UInt8.toNat_ofNat_of_lt' (by show _ < 256; omega)]; omega

/-- Two trees side by side. -/
def twoRv (k idx : Nat) : Array Value := #[.int .i64 11, .int .u8 0, .string ⟨#[]⟩, .int .u64 idx, .bool false, .slice (some ⟨k, 0, none⟩) 1 1, .int .i64 7, .int .u8 117, .string ⟨#[]⟩, .int .u64 0, .bool false, .slice none 0 0]
theorem tree_life {M k : Nat} {w : World} {cs : Array Value} {t : RT} {T T2 : TypeId} (hT : Tre M cs t w) (hb : Blk k cs T w) (cnt idx : Nat) (hc : cnt < 18446744073709551616) (hi : idx < 18446744073709551616) (hM : 2 ≤ M)
    (h2 : Blk (k + 1) (twoRv k idx) T2 w) : TreeAt M w.heap.size w (rv 15 0 [] cnt false (.slice (some ⟨k + 1, 0, none⟩) 2 2)) (lifeFn t cnt idx) := by
  have h1 := tree_one hT hb 11 0 [] idx false hi (by simp) (by omega)
  have h0 : TreeAt M w.heap.size w (rv 7 117 [] 0 false (.slice none 0 0)) (.mk 7 117 [] 0 false []) := tree_leaf 7 117 [] 0 false (by omega) (by simp)
  refine .mk 15 0 [] cnt false _ 2 2 (fun i => if i = 0 then rv 11 0 [] idx false (.slice (some ⟨k, 0, none⟩) 1 1) else rv 7 117 [] 0 false (.slice none 0 0)) [_, _] hc rfl ⟨Nat.le_refl _, by decide⟩ ⟨by simp, hM⟩ ?_ ?_
  · intro _
    refine ⟨k + 1, 0, rfl, (Array.getElem?_eq_some_iff.1 h2).1, fun i hi => ?_⟩
    match i, hi with
    | 0, _ =>
      refine ⟨rfl, fun j hj => ?_⟩
      rw [cellAt h2]
      match j, hj with
      | 0, _ => rfl
      | 1, _ => rfl
      | 2, _ => rfl
      | 3, _ => rfl
      | 4, _ => rfl
      | 5, _ => rfl
    | 1, _ =>
      refine ⟨rfl, fun j hj => ?_⟩
      rw [cellAt h2]
      match j, hj with
      | 0, _ => rfl
      | 1, _ => rfl
      | 2, _ => rfl
      | 3, _ => rfl
      | 4, _ => rfl
      | 5, _ => rfl
  · intro i hi
    match i, hi with
    | 0, _ => exact h1
    | 1, _ => exact h0
/-- The cells of the two. -/
theorem two_cells {k k2 idx : Nat} {T : TypeId} {w : World} (h : Blk k2 (twoRv k idx) T w) :
    w.cell? ⟨k2, 0, none⟩ = some (.int .i64 11) ∧ w.cell? ⟨k2, 1, none⟩ = some (.int .u8 0) ∧ w.cell? ⟨k2, 2, none⟩ = some (.string (bs [])) ∧ w.cell? ⟨k2, 3, none⟩ = some (.int .u64 idx) ∧
      w.cell? ⟨k2, 4, none⟩ = some (.bool false) ∧ w.cell? ⟨k2, 5, none⟩ = some (.slice (some ⟨k, 0, none⟩) 1 1) := by
  refine ⟨?_, ?_, ?_, ?_, ?_, ?_⟩ <;> (rw [cellAt h]; rfl)
end Go.Proofs.YtidokamjbglkbaaGreatDoor
