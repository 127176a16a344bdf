/- Trees of names: how they are written, what is told of them. No program in sight. -/
import Derived.Test.YtlpbhfmhndhbkaaGreatDoorPure2
namespace Go.Proofs.YtlpbhfmhndhbkaaGreatDoor

/-- A tree: kind, letter, name, number, flag, kids. -/
inductive RT where
  | mk (kd : Int) (c : UInt8) (nm : List UInt8) (n : Nat) (fl : Bool) (ks : List RT)
instance : Inhabited RT := ⟨.mk 0 0 [] 0 false []⟩
def RT.kd : RT → Int | .mk kd _ _ _ _ _ => kd
def RT.c : RT → UInt8 | .mk _ c _ _ _ _ => c
def RT.nm : RT → List UInt8 | .mk _ _ nm _ _ _ => nm
def RT.n : RT → Nat | .mk _ _ _ n _ _ => n
def RT.fl : RT → Bool | .mk _ _ _ _ fl _ => fl
def RT.ks : RT → List RT | .mk _ _ _ _ _ ks => ks

/-- What is put behind, and whether an empty name stands last then. -/
def pt (e : Bool) (l : List UInt8) : List UInt8 := if l = [] then [] else sepOf e l ++ l
def pe (e : Bool) (l : List UInt8) : Bool := if l = [] then e else false

/-- A binder, a lifetime, as they are written. -/
def binder (n : Nat) : List UInt8 := if n = 0 then [] else 71 :: b62 (n - 1)
def lifeCode (n : Nat) : List UInt8 := 76 :: b62 n

section
variable (idw : List UInt8 → List UInt8)
/-- A name behind others. -/
def nameText (e : Bool) (nm : List UInt8) : List UInt8 := if nm = [] then pt e [48] else pt e (idw nm)
/-- What is told of a function's ABI, as it is written. -/
def abiCode (nm : List UInt8) : List UInt8 := if nm = [] then [] else if nm = [67] then [75, 67] else 75 :: idw (nm.map fun c => if c = 45 then 95 else c)
def fnHead (nm : List UInt8) (fl : Bool) : List UInt8 := (if fl then [85] else []) ++ abiCode idw nm

mutual
def emp : RT → Bool
  | .mk kd _ nm _ _ ks => if kd = 5 then decide (nm = []) else if kd = 1 ∨ kd = 6 ∨ kd = 7 ∨ kd = 10 ∨ kd = 19 ∨ kd = 20 ∨ kd = 21 then false else empL ks
def empL : List RT → Bool
  | [] => false
  | k :: ks => match ks with
    | [] => emp k
    | _ :: _ => empL ks
end

/-- K stands in front of a constant that is an argument. -/
def argMark (kd : Int) : List UInt8 := if kd = 20 ∨ kd = 21 then [75] else []

mutual
def enc : RT → List UInt8
  | .mk kd c nm n fl ks =>
    if kd = 1 then 67 :: (dis n ++ nameText idw false nm)
    else if kd = 2 then 77 :: (dis n ++ encs ks)
    else if kd = 3 then 88 :: (dis n ++ encs ks)
    else if kd = 4 then 89 :: encs ks
    else if kd = 5 then 78 :: c :: (encs ks ++ (pt (empL ks) (dis n) ++ nameText idw (pe (empL ks) (dis n)) nm))
    else if kd = 6 then 73 :: (encsA ks ++ [69])
    else if kd = 7 then [c]
    else if kd = 8 then 65 :: encs ks
    else if kd = 9 then 83 :: encs ks
    else if kd = 10 then 84 :: (encs ks ++ [69])
    else if kd = 11 then 82 :: ((if n = 0 then [] else lifeCode n) ++ encs ks)
    else if kd = 12 then 81 :: ((if n = 0 then [] else lifeCode n) ++ encs ks)
    else if kd = 13 then 80 :: encs ks
    else if kd = 14 then 79 :: encs ks
    else if kd = 15 then 70 :: (binder n ++ (fnHead idw nm fl ++ encsE ks))
    else if kd = 16 then 68 :: (binder n ++ encsE ks)
    else if kd = 17 then encs ks
    else if kd = 18 then 112 :: (idw nm ++ encs ks)
    else if kd = 19 then lifeCode n
    else if kd = 20 then c :: (negCode fl ++ (h16 n ++ [95]))
    else [112]
def encs : List RT → List UInt8
  | [] => []
  | k :: ks => enc k ++ encs ks
def encsA : List RT → List UInt8
  | [] => []
  | k :: ks => argMark k.kd ++ (enc k ++ encsA ks)
/-- E stands ahead of the last one. -/
def encsE : List RT → List UInt8
  | [] => []
  | k :: ks => match ks with
    | [] => 69 :: enc k
    | _ :: _ => enc k ++ encsE ks
end

mutual
def size : RT → Nat
  | .mk _ _ _ _ _ ks => 1 + sizes ks
def sizes : List RT → Nat
  | [] => 0
  | k :: ks => size k + sizes ks
end

mutual
/-- Where the binders stand, and how many lifetimes are bound there. -/
def bnds (off lb : Nat) : RT → List (Nat × Nat)
  | .mk kd _ nm n fl ks =>
    if kd = 2 ∨ kd = 3 then bndsL (off + (1 + (dis n).length)) lb ks
    else if kd = 5 then bndsL (off + 2) lb ks
    else if kd = 6 then bndsA (off + 1) lb ks
    else if kd = 4 ∨ kd = 8 ∨ kd = 9 ∨ kd = 10 ∨ kd = 13 ∨ kd = 14 then bndsL (off + 1) lb ks
    else if kd = 11 ∨ kd = 12 then bndsL (off + (1 + (if n = 0 then [] else lifeCode n).length)) lb ks
    else if kd = 15 then (if n = 0 then [] else [(off + (1 + (binder n).length), lb + n)]) ++ bndsE (off + (1 + ((binder n).length + (fnHead idw nm fl).length))) (lb + n) ks
    else if kd = 16 then (if n = 0 then [] else [(off + (1 + (binder n).length), lb + n)]) ++ bndsE (off + (1 + (binder n).length)) (lb + n) ks
    else if kd = 17 then bndsL off lb ks
    else if kd = 18 then bndsL (off + (1 + (idw nm).length)) lb ks
    else []
def bndsL (off lb : Nat) : List RT → List (Nat × Nat)
  | [] => []
  | k :: ks => bnds off lb k ++ bndsL (off + (enc idw k).length) lb ks
def bndsA (off lb : Nat) : List RT → List (Nat × Nat)
  | [] => []
  | k :: ks => bnds (off + (argMark k.kd).length) lb k ++ bndsA (off + ((argMark k.kd).length + (enc idw k).length)) lb ks
def bndsE (off lb : Nat) : List RT → List (Nat × Nat)
  | [] => []
  | k :: ks => match ks with
    | [] => bnds (off + 1) lb k
    | _ :: _ => bnds off lb k ++ bndsE (off + (enc idw k).length) lb ks
end
end

/-- How a tree is told: as a path (behind :: or not), as a type, as an argument, ..; generics that begin (and do not end). -/
inductive Md where
  | p (sep : Bool)
  | t
  | s

def Md.sep : Md → Bool
  | .p b => b
  | _ => false

/-- The text of a basic type. -/
def basicText (c : Nat) : List UInt8 :=
  if c = 97 then [105, 56] else if c = 98 then [98, 111, 111, 108] else if c = 99 then [99, 104, 97, 114] else if c = 100 then [102, 54, 52] else if c = 101 then [115, 116, 114]
  else if c = 102 then [102, 51, 50] else if c = 104 then [117, 56] else if c = 105 then [105, 115, 105, 122, 101] else if c = 106 then [117, 115, 105, 122, 101] else if c = 108 then [105, 51, 50]
  else if c = 109 then [117, 51, 50] else if c = 110 then [105, 49, 50, 56] else if c = 111 then [117, 49, 50, 56] else if c = 112 then [95] else if c = 115 then [105, 49, 54] else if c = 116 then [117, 49, 54]
  else if c = 117 then [40, 41] else if c = 118 then [46, 46, 46] else if c = 120 then [105, 54, 52] else if c = 121 then [117, 54, 52] else if c = 122 then [33] else []

/-- The text of what is bound: for<'a, 'b> -/
def forNames (lb n : Nat) : List (List UInt8) := (List.range n).map fun i => lifeText (lb + i + 1) 1
def binderText (lb n : Nat) : List UInt8 := if n = 0 then [] else [102, 111, 114, 60] ++ (joined [44, 32] (forNames lb n) ++ [62, 32])
/-- The last part of a path. -/
def nestText (c : UInt8) (nm : List UInt8) (n : Nat) : List UInt8 :=
  if c = 67 ∨ c = 83 then [58, 58, 123] ++ ((if c = 67 then [99, 108, 111, 115, 117, 114, 101] else [115, 104, 105, 109]) ++ ((if nm = [] then [] else 58 :: nm) ++ ((35 :: Lib.decDigits n) ++ [125])))
  else [58, 58] ++ nm
def fnWords (nm : List UInt8) (fl : Bool) : List UInt8 :=
  (if fl then [117, 110, 115, 97, 102, 101, 32] else []) ++ (if nm = [] then [] else [101, 120, 116, 101, 114, 110, 32, 34] ++ (nm ++ [34, 32]))
/-- The kind of a constant, as the reader numbers it. -/
def constKind (c : Nat) : Nat := if c = 98 then 3 else if c = 99 then 4 else if c = 97 ∨ c = 115 ∨ c = 108 ∨ c = 120 ∨ c = 110 ∨ c = 105 then 1 else 2

mutual
def txt (m : Md) (lb : Nat) : RT → List UInt8
  | .mk kd c nm n fl ks =>
    if kd = 1 then nm
    else if kd = 2 then 60 :: (joined [32, 97, 115, 32] ((txtsT lb ks).drop 1) ++ [62])
    else if kd = 3 then 60 :: (joined [32, 97, 115, 32] ((txtsT lb ks).drop 1) ++ [62])
    else if kd = 4 then 60 :: (joined [32, 97, 115, 32] (txtsT lb ks) ++ [62])
    else if kd = 5 then (txts (.p m.sep) lb ks).flatten ++ nestText c nm n
    else if kd = 6 then ((txts (.p m.sep) lb ks).headD [] ++ ((if m.sep then [58, 58] else []) ++ (60 :: joined [44, 32] ((txtsT lb ks).drop 1)))) ++ (match m with | .s => [] | _ => [62])
    else if kd = 7 then basicText c.toNat
    else if kd = 8 then 91 :: (joined [59, 32] (txtsT lb ks) ++ [93])
    else if kd = 9 then 91 :: ((txtsT lb ks).flatten ++ [93])
    else if kd = 10 then 40 :: (joined [44, 32] (txtsT lb ks) ++ ((if ks.length = 1 then [44] else []) ++ [41]))
    else if kd = 11 then 38 :: ((if n = 0 then [] else lifeText lb n ++ [32]) ++ (txtsT lb ks).flatten)
    else if kd = 12 then 38 :: ((if n = 0 then [] else lifeText lb n ++ [32]) ++ ([109, 117, 116, 32] ++ (txtsT lb ks).flatten))
    else if kd = 13 then [42, 99, 111, 110, 115, 116, 32] ++ (txtsT lb ks).flatten
    else if kd = 14 then [42, 109, 117, 116, 32] ++ (txtsT lb ks).flatten
    else if kd = 15 then binderText lb n ++ (fnWords nm fl ++ ([102, 110, 40] ++ (joined [44, 32] ((txtsT (lb + n) ks).dropLast) ++ (41 :: (if (ks.getLastD default).kd = 7 ∧ (ks.getLastD default).c = 117 then [] else [32, 45, 62, 32] ++ (txtsT (lb + n) ks).getLastD [])))))
    else if kd = 16 then [100, 121, 110, 32] ++ (binderText lb n ++ (joined [32, 43, 32] ((txts .s (lb + n) ks).dropLast) ++ (if (ks.getLastD default).n = 0 then [] else [32, 43, 32] ++ (txtsT lb ks).getLastD [])))
    else if kd = 17 then (txts .s lb ks).headD [] ++ (if (ks.headD default).kd = 6 then tailText [44, 32] ((txtsT lb ks).drop 1) ++ [62] else if ks.length ≤ 1 then [] else 60 :: (joined [44, 32] ((txtsT lb ks).drop 1) ++ [62]))
    else if kd = 18 then nm ++ ([32, 61, 32] ++ (txtsT lb ks).flatten)
    else if kd = 19 then lifeText lb n
    else if kd = 20 then negText fl ++ constText (constKind c.toNat) n
    else [95]
def txts (m : Md) (lb : Nat) : List RT → List (List UInt8)
  | [] => []
  | k :: ks => txt m lb k :: txts m lb ks
def txtsT (lb : Nat) : List RT → List (List UInt8)
  | [] => []
  | k :: ks => txt .t lb k :: txtsT lb ks
end
end Go.Proofs.YtlpbhfmhndhbkaaGreatDoor
