/- Plain words on constants. -/
import Derived.Test.YtlpbhfmhndhbkaaGreatDoorPure
import Derived.Lib.ItoaNum
namespace Go.Proofs.YtlpbhfmhndhbkaaGreatDoor

/-- The letters of the kinds of numbers. -/
def isSg (c : Nat) : Prop := c = 97 ∨ c = 115 ∨ c = 108 ∨ c = 120 ∨ c = 110 ∨ c = 105
def isUn (c : Nat) : Prop := c = 104 ∨ c = 116 ∨ c = 109 ∨ c = 121 ∨ c = 111 ∨ c = 106

/-- The kinds of constants, as the reader numbers them. -/
def KindOk (K : Nat) (c : UInt8) (n : Nat) (neg : Bool) : Prop :=
  (K = 1 ∧ isSg c.toNat) ∨ (K = 2 ∧ isUn c.toNat ∧ neg = false) ∨ (K = 3 ∧ c.toNat = 98 ∧ neg = false ∧ n ≤ 1) ∨
    (K = 4 ∧ c.toNat = 99 ∧ neg = false ∧ 32 ≤ n ∧ n ≤ 126 ∧ n ≠ 39 ∧ n ≠ 92)
def negText (neg : Bool) : List UInt8 := if neg then [45] else []
def negCode (neg : Bool) : List UInt8 := if neg then [110] else []
def constText (K n : Nat) : List UInt8 :=
  if K = 3 then (if n = 0 then [102, 97, 108, 115, 101] else [116, 114, 117, 101]) else if K = 4 then [39, UInt8.ofNat n, 39] else Lib.decDigits n

end Go.Proofs.YtlpbhfmhndhbkaaGreatDoor
