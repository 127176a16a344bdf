/- The memory of the reader: the block of a rustState, what it says, how it is kept. -/
import Derived.Test.YtidokamjbglkbaaGreatDoorProg
import Derived.WalkKit
import Derived.WalkLawsBesides
import Derived.WalkSpells
import Derived.Outline
import Derived.Below
import Derived.KernelRfl
import Derived.Lib.Hide
import Derived.Lib.Builder
import Derived.Lib.AppendStr
import Derived.Lib.UnsafeStr
import Derived.Deep.QuietTactic
import Derived.BigQuiet
import Derived.Deep.DeepFit
import Derived.RowKit
import Derived.Lib.ItoaNum
import Derived.Test.YtidokamjbglkbaaGreatDoorRows
import Derived.Lib.ItoaMem
namespace Go.Proofs.YtidokamjbglkbaaGreatDoor
open Go.RowKit

/-- The numbers of the types. -/
abbrev tR : TypeId := 87
abbrev tB : TypeId := 5

/-- The bytes of a text, as cells. -/
def bv (l : List UInt8) : List Value := l.map fun c => .int .u8 c.toNat
theorem bv_length (l : List UInt8) : (bv l).length = l.length := by simp [bv]

/-- A text out of its bytes. -/
def bs (l : List UInt8) : ByteArray := ⟨l.toArray⟩
@[simp] theorem bs_size (l : List UInt8) : (bs l).size = l.length := by simp [bs, ByteArray.size]
@[simp] theorem bs_list (l : List UInt8) : (bs l).data.toList = l := rfl
theorem bs_of (s : ByteArray) : bs s.data.toList = s := by cases s; simp [bs]
theorem bs_inj {l m : List UInt8} (h : bs l = bs m) : l = m := by rw [← bs_list l, h, bs_list]
@[simp] theorem bs_get (l : List UInt8) (i : Nat) (h : i < (bs l).size) : (bs l)[i] = l[i]'(by simpa using h) := rfl
theorem bs_extract (l : List UInt8) (a b : Nat) : (bs l).extract a b = bs ((l.drop a).take (b - a)) := by
  have : ((bs l).extract a b).data.toList = (bs ((l.drop a).take (b - a))).data.toList := by
    rw [bs_list, ByteArray.data_extract]
    simp only [Array.toList_extract, bs]
  rw [← bs_of ((bs l).extract a b), this, bs_list]
@[simp] theorem bs_drop (l : List UInt8) (a : Nat) : (bs l).extract a l.length = bs (l.drop a) := by
  rw [bs_extract, List.take_of_length_le (by simp)]
@[simp] theorem bs_take (l : List UInt8) (a : Nat) : (bs l).extract 0 a = bs (l.take a) := by
  rw [bs_extract]; simp
theorem bs_append (l m : List UInt8) : bs l ++ bs m = bs (l ++ m) := by
  rw [← bs_of (bs l ++ bs m)]; simp [bs]

/-- What a reader holds. -/
structure RS where
  orig : List UInt8
  str : List UInt8
  off : Nat
  out : List UInt8
  skip : Bool
  life : Nat
  last : Nat

/-- Its cells. -/
def RS.cs (r : RS) (ad buf : Value) : Array Value :=
  #[.string (bs r.orig), .string (bs r.str), .int .i64 r.off, ad, buf, .bool r.skip, .int .i64 r.life, .int .u8 r.last, .bool false, .int .i64 0]

/-- What a block is made of. -/
def kindOf (o : Option Obj) : Option TypeId := match o with
  | some (.cells _ t _) => some t
  | _ => none

/-- What a call of the reader leaves alone: what lies below B, and whatever is neither a reader nor bytes. -/
structure Kept (B : Nat) (w w' : World) : Prop where
  os : w'.os = w.os
  tape : w'.tape = w.tape
  output : w'.output = w.output
  size : w.heap.size ≤ w'.heap.size
  block : ∀ k, k < w.heap.size → (k < B ∨ (kindOf w.heap[k]? ≠ some tR ∧ kindOf w.heap[k]? ≠ some tB)) → w'.heap[k]? = w.heap[k]?

theorem Kept.refl (B : Nat) (w : World) : Kept B w w := ⟨rfl, rfl, rfl, Nat.le_refl _, fun _ _ _ => rfl⟩

theorem Kept.trans {B : Nat} {a b c : World} (h : Kept B a b) (k : Kept B b c) : Kept B a c :=
  ⟨k.os.trans h.os, k.tape.trans h.tape, k.output.trans h.output, Nat.le_trans h.size k.size,
   fun i hi hc => (k.block i (Nat.lt_of_lt_of_le hi h.size) (by rw [h.block i hi hc]; exact hc)).trans (h.block i hi hc)⟩

theorem Kept.drew {B : Nat} {a w : World} (h : Kept B a w) : Kept B a w.drew := ⟨h.os, h.tape, h.output, h.size, h.block⟩

theorem Kept.drewN {B : Nat} {a w : World} (h : Kept B a w) (n : Nat) : Kept B a (w.drewN n) := ⟨h.os, h.tape, h.output, h.size, h.block⟩

theorem Kept.alloc {B : Nat} {a w : World} (h : Kept B a w) (o : Obj) : Kept B a (w.alloc o) :=
  h.trans ⟨rfl, rfl, rfl, by simp, fun k hk _ => Below.heap_alloc _ _ _ hk⟩

theorem kindOf_setCell (w : World) (p : Addr) (u : Value) (k : Nat) : kindOf (w.setCell p u).heap[k]? = kindOf w.heap[k]? := by
  simp only [World.setCell, Array.getElem?_modify]
  split
  · cases h : w.heap[k]? with
    | none => rfl
    | some o => cases o <;> rfl
  · rfl

/-- A store into a reader's block, or into a block that is new. -/
theorem Kept.setCell {B : Nat} {a w : World} (h : Kept B a w) {p : Addr} (hp : a.heap.size ≤ p.block ∨ (B ≤ p.block ∧ kindOf w.heap[p.block]? = some tR)) (u : Value) : Kept B a (w.setCell p u) :=
  ⟨h.os, h.tape, h.output, by simpa [World.setCell] using h.size,
   fun k hk hc => by
    have hne : k ≠ p.block := by
      intro e
      rcases hp with hp | ⟨hp, hq⟩
      · omega
      · rw [← e, h.block k hk hc] at hq
        rcases hc with hc | hc
        · omega
        · exact hc.1 hq
    rw [Below.heap_setCell _ _ _ _ hne]; exact h.block k hk hc⟩

theorem Kept.below {B : Nat} {w w' : World} (h : Kept B w w') (hB : B ≤ w.heap.size) : Below B w w' :=
  ⟨h.os, h.tape, h.output, h.size, fun k hk => h.block k (by omega) (.inl hk)⟩

/-- Behind an append: the row that may have been written is one of bytes. -/
theorem Kept.grown {B : Nat} {a w w' : World} {row : Option Nat} (h : Kept B a w) (hg : w.grownBy w' row)
    (hr : ∀ k, row = some k → B ≤ k ∧ kindOf w.heap[k]? = some tB) : Kept B a w' :=
  h.trans ⟨hg.os, hg.tape, hg.output, hg.size,
    fun k hk hc => hg.block k hk (fun e => by
      have := hr k e.symm
      rcases hc with hc | hc
      · omega
      · exact hc.2 this.2)⟩

/-- A cell of a block with its neighbours. -/
theorem cellAt {w : World} {b : Nat} {cs : Array Value} {T : TypeId} {fr : Nat × Nat} (hb : w.heap[b]? = some (.cells cs T fr)) (j : Nat) : w.cell? ⟨b, j, none⟩ = cs[j]? := by
  simp [World.cell?, hb]

theorem setCell_heap {w : World} {b : Nat} {cs : Array Value} {T : TypeId} {fr : Nat × Nat} (hb : w.heap[b]? = some (.cells cs T fr)) (j : Nat) (v : Value) :
    (w.setCell ⟨b, j, none⟩ v).heap[b]? = some (.cells (cs.setIfInBounds j v) T fr) := by
  simp [World.setCell, Array.getElem?_modify, hb]

end Go.Proofs.YtidokamjbglkbaaGreatDoor

/- Plain words on digits. -/
namespace Go.Proofs.YtidokamjbglkbaaGreatDoor

/-- The value of a digit in base 62. -/
def d62 (c : UInt8) : Nat := if c.toNat ≤ 57 then c.toNat - 48 else if c.toNat ≤ 90 then c.toNat - 65 + 36 else c.toNat - 97 + 10
def is62 (c : UInt8) : Prop := (48 ≤ c.toNat ∧ c.toNat ≤ 57) ∨ (97 ≤ c.toNat ∧ c.toNat ≤ 122) ∨ (65 ≤ c.toNat ∧ c.toNat ≤ 90)
def f62 (l : List UInt8) (x : Nat) : Nat := l.foldl (fun x c => x * 62 + d62 c) x
theorem f62_nil (x : Nat) : f62 [] x = x := rfl
theorem f62_cons (c : UInt8) (l : List UInt8) (x : Nat) : f62 (c :: l) x = f62 l (x * 62 + d62 c) := rfl
theorem f62_ge (l : List UInt8) : ∀ x, x ≤ f62 l x := by
  induction l with
  | nil => intro x; exact Nat.le_refl _
  | cons c l ih => intro x; rw [f62_cons]; exact Nat.le_trans (by omega) (ih _)

def is10 (c : UInt8) : Prop := 48 ≤ c.toNat ∧ c.toNat ≤ 57
instance (c : UInt8) : Decidable (is10 c) := inferInstanceAs (Decidable (_ ∧ _))
def f10 (l : List UInt8) (x : Nat) : Nat := l.foldl (fun x c => x * 10 + (c.toNat - 48)) x
theorem f10_nil (x : Nat) : f10 [] x = x := rfl
theorem f10_cons (c : UInt8) (l : List UInt8) (x : Nat) : f10 (c :: l) x = f10 l (x * 10 + (c.toNat - 48)) := by simp only [f10, List.foldl_cons]
theorem f10_ge (l : List UInt8) : ∀ x, x ≤ f10 l x := by
  induction l with
  | nil => intro x; exact Nat.le_refl _
  | cons c l ih => intro x; rw [f10_cons]; exact Nat.le_trans (by omega) (ih _)
/-- No digit stands in front. -/
def noDig (l : List UInt8) : Prop := ∀ c, l.head? = some c → ¬ is10 c

/-- A digit in base 62, and a number in base 62, written. -/
def dig62 (d : Nat) : UInt8 := UInt8.ofNat (if d < 10 then 48 + d else if d < 36 then 97 + (d - 10) else 65 + (d - 36))
def e62 (n : Nat) (acc : List UInt8) : List UInt8 := if n < 62 then dig62 n :: acc else e62 (n / 62) (dig62 (n % 62) :: acc)
termination_by n
decreasing_by omega
def b62 (n : Nat) : List UInt8 := if n = 0 then [95] else e62 (n - 1) [] ++ [95]

theorem dig62_nat (d : Nat) (h : d < 62) : (dig62 d).toNat = if d < 10 then 48 + d else if d < 36 then 97 + (d - 10) else 65 + (d - 36) := by
  unfold dig62
  rw [UInt8.toNat_ofNat_of_lt']
  show _ < 256
  split
  · omega
  · split <;> omega
theorem d62_dig (d : Nat) (h : d < 62) : d62 (dig62 d) = d := by
  unfold d62
  rw [dig62_nat d h]
  repeat' split
  all_goals omega
theorem is62_dig (d : Nat) (h : d < 62) : is62 (dig62 d) := by
  unfold is62
  rw [dig62_nat d h]
  split
  · omega
  · split <;> omega
theorem e62_f (n : Nat) : ∀ acc, f62 (e62 n acc) 0 = f62 acc n := by
  induction n using Nat.strongRecOn with
  | _ n ih =>
    intro acc
    rw [e62]
    split
    · rename_i h
      rw [f62_cons, d62_dig n h]; simp
    · rename_i h
      rw [ih _ (by omega), f62_cons, d62_dig _ (by omega)]
      congr 1; omega
theorem e62_is (n : Nat) : ∀ acc, (∀ c ∈ acc, is62 c) → ∀ c ∈ e62 n acc, is62 c := by
  induction n using Nat.strongRecOn with
  | _ n ih =>
    intro acc ha
    rw [e62]
    split
    · rename_i h
      intro c hc
      rcases List.mem_cons.1 hc with rfl | hc
      · exact is62_dig n h
      · exact ha c hc
    · rename_i h
      refine ih _ (by omega) _ ?_
      intro c hc
      rcases List.mem_cons.1 hc with rfl | hc
      · exact is62_dig _ (by omega)
      · exact ha c hc
theorem e62_ne (n : Nat) : ∀ acc, e62 n acc ≠ [] := by
  induction n using Nat.strongRecOn with
  | _ n ih =>
    intro acc
    rw [e62]
    split
    · simp
    · exact ih _ (by omega) _
theorem e62_len (n : Nat) : ∀ acc, n < 62 ^ 12 → (e62 n acc).length ≤ acc.length + 12 := by
  have : ∀ k n acc, n < 62 ^ (k + 1) → (e62 n acc).length ≤ acc.length + (k + 1) := by
    intro k
    induction k with
    | zero =>
      intro n acc h
      rw [e62, if_pos (by simpa using h)]; simp
    | succ k ih =>
      intro n acc h
      rw [e62]
      split
      · simp
      · have := ih (n / 62) (dig62 (n % 62) :: acc) (by
          rw [Nat.div_lt_iff_lt_mul (by decide)]
          calc n < 62 ^ (k + 1 + 1) := h
            _ = 62 ^ (k + 1) * 62 := Nat.pow_succ ..)
        simp at this; omega
  intro acc h
  exact this 11 n acc h
theorem b62_len (n : Nat) (h : n ≤ 4611686018427387904) : (b62 n).length ≤ 13 := by
  unfold b62
  split
  · simp
  · have := e62_len (n - 1) [] (by omega)
    simp at this ⊢; omega
/-- A disambiguator. -/
def dis (n : Nat) : List UInt8 := if n = 0 then [] else 115 :: b62 (n - 1)
theorem dis_len (n : Nat) (h : n ≤ 4611686018427387904) : (dis n).length ≤ 14 := by
  unfold dis
  split
  · simp
  · have := b62_len (n - 1) (by omega)
    simp; omega
/-- The text of a lifetime. -/
def lifeText (lb i : Nat) : List UInt8 := if i = 0 then [39, 95] else [39, UInt8.ofNat (97 + (lb - i))]
theorem lifeText_len (lb i : Nat) : (lifeText lb i).length = 2 := by unfold lifeText; split <;> rfl

/-- The bytes of which a written name is made. -/
def isId (c : UInt8) : Prop := is10 c ∨ (65 ≤ c.toNat ∧ c.toNat ≤ 90) ∨ (97 ≤ c.toNat ∧ c.toNat ≤ 122) ∨ c.toNat = 95
/-- What may stand between a name's number and its bytes. -/
def SepOk (sep tl : List UInt8) : Prop := sep = [95] ∨ (sep = [] ∧ noDig tl ∧ ∀ c, tl.head? = some c → c.toNat ≠ 95)

/-- Digits in base 16. -/
def d16 (c : UInt8) : Nat := if c.toNat ≤ 57 then c.toNat - 48 else c.toNat - 97 + 10
def is16 (c : UInt8) : Prop := (48 ≤ c.toNat ∧ c.toNat ≤ 57) ∨ (97 ≤ c.toNat ∧ c.toNat ≤ 102)
def f16 (l : List UInt8) (x : Nat) : Nat := l.foldl (fun x c => x * 16 + d16 c) x
theorem f16_nil (x : Nat) : f16 [] x = x := rfl
theorem f16_cons (c : UInt8) (l : List UInt8) (x : Nat) : f16 (c :: l) x = f16 l (x * 16 + d16 c) := by simp only [f16, List.foldl_cons]
theorem f16_ge (l : List UInt8) : ∀ x, x ≤ f16 l x := by
  induction l with
  | nil => intro x; exact Nat.le_refl _
  | cons c l ih => intro x; rw [f16_cons]; exact Nat.le_trans (by omega) (ih _)
theorem f16_append (l m : List UInt8) (x : Nat) : f16 (l ++ m) x = f16 m (f16 l x) := by simp [f16, List.foldl_append]
def dig16 (d : Nat) : UInt8 := UInt8.ofNat (if d < 10 then 48 + d else 97 + (d - 10))
/-- A number in base 16, written. -/
def h16 (n : Nat) : List UInt8 := if n < 16 then [dig16 n] else h16 (n / 16) ++ [dig16 (n % 16)]
termination_by n
decreasing_by omega
theorem dig16_nat (d : Nat) (h : d < 16) : (dig16 d).toNat = if d < 10 then 48 + d else 97 + (d - 10) := by
  unfold dig16
  rw [UInt8.toNat_ofNat_of_lt']
  show _ < 256
  split <;> omega
theorem d16_dig (d : Nat) (h : d < 16) : d16 (dig16 d) = d := by
  unfold d16
  rw [dig16_nat d h]
  repeat' split
  all_goals omega
theorem is16_dig (d : Nat) (h : d < 16) : is16 (dig16 d) := by
  unfold is16
  rw [dig16_nat d h]
  split <;> omega
theorem h16_f (n : Nat) : f16 (h16 n) 0 = n := by
  induction n using Nat.strongRecOn with
  | _ n ih =>
    rw [h16]
    split
    · rename_i h
      rw [f16_cons, f16_nil, d16_dig n h]; simp
    · rename_i h
      rw [f16_append, ih _ (by omega), f16_cons, f16_nil, d16_dig _ (by omega)]
      omega
theorem h16_is (n : Nat) : ∀ c ∈ h16 n, is16 c := by
  induction n using Nat.strongRecOn with
  | _ n ih =>
    rw [h16]
    split
    · rename_i h
      intro c hc
      simp at hc; subst hc
      exact is16_dig n h
    · rename_i h
      intro c hc
      rcases List.mem_append.1 hc with hc | hc
      · exact ih _ (by omega) c hc
      · simp at hc; subst hc
        exact is16_dig _ (by omega)
theorem h16_ne (n : Nat) : h16 n ≠ [] := by
  rw [h16]; split <;> simp
/-- No nought stands in front, but where it stands alone. -/
theorem h16_head (n : Nat) : ∃ c l, h16 n = c :: l ∧ (c.toNat = 48 → l = []) := by
  induction n using Nat.strongRecOn with
  | _ n ih =>
    rw [h16]
    split
    · exact ⟨_, [], rfl, fun _ => rfl⟩
    · rename_i h
      obtain ⟨c, l, e, hc⟩ := ih (n / 16) (by omega)
      refine ⟨c, l ++ [dig16 (n % 16)], by rw [e]; rfl, ?_⟩
      intro h48
      have hl := hc h48
      subst hl
      have hf := h16_f (n / 16)
      rw [e, f16_cons, f16_nil] at hf
      unfold d16 at hf
      rw [h48] at hf
      simp at hf
      omega
theorem h16_len (n k : Nat) (h : n < 16 ^ (k + 1)) : (h16 n).length ≤ k + 1 := by
  induction k generalizing n with
  | zero => rw [h16, if_pos (by simpa using h)]; simp
  | succ k ih =>
    rw [h16]
    split
    · simp
    · have := ih (n / 16) (by
        rw [Nat.div_lt_iff_lt_mul (by decide)]
        calc n < 16 ^ (k + 1 + 1) := h
          _ = 16 ^ (k + 1) * 16 := Nat.pow_succ ..)
      simp; omega
/-- Behind what has been read (x) the rest holds no nought too many. -/
def NZ (x : Nat) (todo : List UInt8) : Prop := x = 0 → ∀ c l, todo = c :: l → c.toNat = 48 → l = []
/-- A digit or an underscore stands in front. -/
def startsDU : List UInt8 → Bool
  | [] => false
  | c :: _ => decide (c.toNat = 95) || (decide (48 ≤ c.toNat) && decide (c.toNat ≤ 57))
def sepOf (e : Bool) (l : List UInt8) : List UInt8 := if e && startsDU l then [95] else []
def tailText (sep : List UInt8) (ts : List (List UInt8)) : List UInt8 := ts.flatMap fun t => sep ++ t
def joined (sep : List UInt8) : List (List UInt8) → List UInt8
  | [] => []
  | t :: ts => t ++ tailText sep ts
theorem tailText_cons (sep t : List UInt8) (ts : List (List UInt8)) : tailText sep (t :: ts) = sep ++ (t ++ tailText sep ts) := by simp [tailText]

end Go.Proofs.YtidokamjbglkbaaGreatDoor

/- Plain words on constants. -/
namespace Go.Proofs.YtidokamjbglkbaaGreatDoor

/-- The letters of the kinds of numbers. -/
def isSg (c : Nat) : Prop := c = 97 ∨ c = 115 ∨ c = 108 ∨ c = 120 ∨ c = 110 ∨ c = 105
def isUn (c : Nat) : Prop := c = 104 ∨ c = 116 ∨ c = 109 ∨ c = 121 ∨ c = 111 ∨ c = 106

/-- The kinds of constants, as the reader numbers them. -/
def KindOk (K : Nat) (c : UInt8) (n : Nat) (neg : Bool) : Prop :=
  (K = 1 ∧ isSg c.toNat) ∨ (K = 2 ∧ isUn c.toNat ∧ neg = false) ∨ (K = 3 ∧ c.toNat = 98 ∧ neg = false ∧ n ≤ 1) ∨
    (K = 4 ∧ c.toNat = 99 ∧ neg = false ∧ 32 ≤ n ∧ n ≤ 126 ∧ n ≠ 39 ∧ n ≠ 92)
def negText (neg : Bool) : List UInt8 := if neg then [45] else []
def negCode (neg : Bool) : List UInt8 := if neg then [110] else []
def constText (K n : Nat) : List UInt8 :=
  if K = 3 then (if n = 0 then [102, 97, 108, 115, 101] else [116, 114, 117, 101]) else if K = 4 then [39, UInt8.ofNat n, 39] else Lib.decDigits n

end Go.Proofs.YtidokamjbglkbaaGreatDoor

/- The plain functions of the reference on constants: kinds, bits. -/
namespace Go.Proofs.YtidokamjbglkbaaGreatDoor
open Go.RowKit

theorem isPath_any (k : Int) (w : World) : Calls Tryz.prog 35 #[.int .i64 k] w fun e w' => e = .returned (.bool (decide (1 ≤ k) && decide (k ≤ 6))) ∧ w = w' := by
  by_cases h : 1 ≤ k
  · go_enter Tryz.func35, Tryz.ntmps35
    go_wp2
    go_ret
    exact ⟨by simp [h], rfl⟩
  · go_enter Tryz.func35, Tryz.ntmps35
    go_wp2
    go_ret
    exact ⟨by simp; omega, rfl⟩

/-- Of a constant: whether it is one of its type. -/
def sgBits (c : Nat) : Nat := if c = 97 then 8 else if c = 115 then 16 else if c = 108 then 32 else 64
def unBits (c : Nat) : Nat := if c = 104 then 8 else if c = 116 then 16 else if c = 109 then 32 else 64

set_option maxHeartbeats 1000000 in
theorem bits_sg (c : Nat) (hc : isSg c) (w : World) : Calls Tryz.prog 71 #[.int .u8 c] w fun e w' => e = .returned (.tuple #[.int .u64 (sgBits c), .bool true]) ∧ w = w' := by
  unfold isSg at hc
  rcases hc with rfl | rfl | rfl | rfl | rfl | rfl
  all_goals
    go_enter Tryz.func71, Tryz.ntmps71
    go_wp2
    go_ret2
    exact ⟨rfl, rfl⟩

set_option maxHeartbeats 1000000 in
theorem bits_un (c : Nat) (hc : isUn c) (w : World) : Calls Tryz.prog 71 #[.int .u8 c] w fun e w' => e = .returned (.tuple #[.int .u64 (unBits c), .bool false]) ∧ w = w' := by
  unfold isUn at hc
  rcases hc with rfl | rfl | rfl | rfl | rfl | rfl
  all_goals
    go_enter Tryz.func71, Tryz.ntmps71
    go_wp2
    go_ret2
    exact ⟨rfl, rfl⟩

set_option maxHeartbeats 1000000 in
theorem bits_no (c : Nat) (hc : ¬ isSg c) (hd : ¬ isUn c) (w : World) : Calls Tryz.prog 71 #[.int .u8 c] w fun e w' => e = .returned (.tuple #[.int .u64 0, .bool false]) ∧ w = w' := by
  unfold isSg at hc
  unfold isUn at hd
  have e1 : ((c : Int) == 97) = false := by rw [beq_eq_false_iff_ne]; omega
  have e2 : ((c : Int) == 115) = false := by rw [beq_eq_false_iff_ne]; omega
  have e3 : ((c : Int) == 108) = false := by rw [beq_eq_false_iff_ne]; omega
  have e4 : ((c : Int) == 120) = false := by rw [beq_eq_false_iff_ne]; omega
  have e5 : ((c : Int) == 110) = false := by rw [beq_eq_false_iff_ne]; omega
  have e6 : ((c : Int) == 105) = false := by rw [beq_eq_false_iff_ne]; omega
  have e7 : ((c : Int) == 104) = false := by rw [beq_eq_false_iff_ne]; omega
  have e8 : ((c : Int) == 116) = false := by rw [beq_eq_false_iff_ne]; omega
  have e9 : ((c : Int) == 109) = false := by rw [beq_eq_false_iff_ne]; omega
  have e10 : ((c : Int) == 121) = false := by rw [beq_eq_false_iff_ne]; omega
  have e11 : ((c : Int) == 111) = false := by rw [beq_eq_false_iff_ne]; omega
  have e12 : ((c : Int) == 106) = false := by rw [beq_eq_false_iff_ne]; omega
  clear hc hd
  go_enter Tryz.func71, Tryz.ntmps71
  go_wp2
  go_ret2
  exact ⟨rfl, rfl⟩

/-- A tree's own cells, as a value. -/
abbrev rv (kd : Int) (c : UInt8) (nm : List UInt8) (n : Nat) (fl : Bool) (ks : Value) : Array Value :=
  #[.int .i64 kd, .int .u8 c.toNat, .string (bs nm), .int .u64 n, .bool fl, ks]

/-- It answers a bool of which Q holds, and the world is R. -/
def BoolP (Q : Bool → Prop) (R : World → Prop) (e : Ending) (w' : World) : Prop := ∃ bl : Bool, e = .returned (.bool bl) ∧ Q bl ∧ R w'

set_option maxHeartbeats 4000000 in
set_option maxRecDepth 100000 in
theorem isNumber_any (Q : Bool → Prop) (kd : Int) (c : UInt8) (nm : List UInt8) (n : Nat) (fl : Bool) (ks : Value) (hn : n < 18446744073709551616) (hQ : ∀ bl, (bl = true → ∃ K, KindOk K c n fl) → Q bl) (w : World) :
    Calls Tryz.prog 50 #[.agg (rv kd c nm n fl ks)] w (BoolP Q fun w' => w.alloc (.cells (rv kd c nm n fl ks) 25) = w') := by
  by_cases h98 : c.toNat = 98
  · have hk : ∀ bl : Bool, (bl = true → n ≤ 1 ∧ fl = false) → Q bl := fun bl h => hQ bl fun e => ⟨3, .inr (.inr (.inl ⟨rfl, h98, (h e).2, (h e).1⟩))⟩
    have HK := Lib.hid hk
    clear hk hQ
    by_cases h1 : n ≤ 1
    · cases fl
      all_goals
        go_enter Tryz.func50, Tryz.ntmps50
        go_wp2
        go_ret
        refine ⟨_, rfl, HK.out _ ?_, rfl⟩
        simp <;> omega
    · have hd : decide ((n : Int) ≤ 1) = false := by simp; omega
      go_enter Tryz.func50, Tryz.ntmps50
      go_wp2
      go_ret
      refine ⟨_, rfl, HK.out _ ?_, rfl⟩
      simp
  · have h98' : ((c.toNat : Int) == 98) = false := by rw [beq_eq_false_iff_ne]; omega
    by_cases h99 : c.toNat = 99
    · have hk : ∀ bl : Bool, (bl = true → 32 ≤ n ∧ n ≤ 126 ∧ n ≠ 39 ∧ n ≠ 92 ∧ fl = false) → Q bl := fun bl h => hQ bl fun e => ⟨4, .inr (.inr (.inr ⟨rfl, h99, (h e).2.2.2.2, (h e).1, (h e).2.1, (h e).2.2.1, (h e).2.2.2.1⟩))⟩
      have HK := Lib.hid hk
      clear hk hQ h98
      by_cases h1 : 32 ≤ n
      · by_cases h2 : n ≤ 126
        · by_cases h3 : n = 39
          · subst h3
            go_enter Tryz.func50, Tryz.ntmps50
            go_wp2
            go_ret
            refine ⟨_, rfl, HK.out _ ?_, rfl⟩
            simp
          · by_cases h4 : n = 34
            · subst h4
              go_enter Tryz.func50, Tryz.ntmps50
              go_wp2
              go_ret
              refine ⟨_, rfl, HK.out _ ?_, rfl⟩
              simp
            · by_cases h5 : n = 92
              · subst h5
                go_enter Tryz.func50, Tryz.ntmps50
                go_wp2
                go_ret
                refine ⟨_, rfl, HK.out _ ?_, rfl⟩
                simp
              · have e3 : ((n : Int) != 39) = true := by rw [bne_iff_ne]; omega
                have e4 : ((n : Int) != 34) = true := by rw [bne_iff_ne]; omega
                have e5 : ((n : Int) != 92) = true := by rw [bne_iff_ne]; omega
                cases fl
                all_goals
                  go_enter Tryz.func50, Tryz.ntmps50
                  go_wp2
                  go_ret
                  refine ⟨_, rfl, HK.out _ ?_, rfl⟩
                  simp <;> omega
        · have hd : decide ((n : Int) ≤ 126) = false := by simp; omega
          go_enter Tryz.func50, Tryz.ntmps50
          go_wp2
          go_ret
          refine ⟨_, rfl, HK.out _ ?_, rfl⟩
          simp
      · have hd : decide ((32 : Int) ≤ n) = false := by simp; omega
        go_enter Tryz.func50, Tryz.ntmps50
        go_wp2
        go_ret
        refine ⟨_, rfl, HK.out _ ?_, rfl⟩
        simp
    · have h99' : ((c.toNat : Int) == 99) = false := by rw [beq_eq_false_iff_ne]; omega
      by_cases hsg : isSg c.toNat
      · have hk : ∀ bl : Bool, Q bl := fun bl => hQ bl fun _ => ⟨1, .inl ⟨rfl, hsg⟩⟩
        have HK := Lib.hid hk
        have HS := Lib.hid hsg
        clear hk hQ h98 h99 hsg
        cases fl
        all_goals
          go_enter Tryz.func50, Tryz.ntmps50
          go_wp2_with fail
          refine (bits_sg c.toNat HS.out _).mono ?_
          rintro e w1 ⟨rfl, rfl⟩
          go_wp2_with fail
          all_goals go_ret
          all_goals exact ⟨_, rfl, HK.out _, rfl⟩
      · by_cases hun : isUn c.toNat
        · have hk : ∀ bl : Bool, (bl = true → fl = false) → Q bl := fun bl h => hQ bl fun e => ⟨2, .inr (.inl ⟨rfl, hun, h e⟩)⟩
          have HK := Lib.hid hk
          have HS := Lib.hid hun
          clear hk hQ h98 h99 hsg hun
          cases fl
          all_goals
            go_enter Tryz.func50, Tryz.ntmps50
            go_wp2_with fail
            refine (bits_un c.toNat HS.out _).mono ?_
            rintro e w1 ⟨rfl, rfl⟩
            go_wp2_with fail
            all_goals go_ret
            all_goals exact ⟨_, rfl, HK.out _ (by simp), rfl⟩
        · have hk : ∀ bl : Bool, bl = false → Q bl := fun bl h => hQ bl fun e => absurd e (by rw [h]; decide)
          have HK := Lib.hid hk
          have HS := Lib.hid hsg
          have HU := Lib.hid hun
          clear hk hQ h98 h99 hsg hun
          go_enter Tryz.func50, Tryz.ntmps50
          go_wp2_with fail
          refine (bits_no c.toNat HS.out HU.out _).mono ?_
          rintro e w1 ⟨rfl, rfl⟩
          go_wp2_with fail
          all_goals go_ret
          all_goals exact ⟨_, rfl, HK.out _ rfl, rfl⟩
end Go.Proofs.YtidokamjbglkbaaGreatDoor

/- The reader's block with its buffer's address and value in sight. -/
namespace Go.Proofs.YtidokamjbglkbaaGreatDoor
open Go.RowKit

/-- What the package-level variables hold where the call begins. -/
structure TabsAt (W : World) : Prop where
  pow10 : Lib.TabIs Tryz.prog W "internal/strconv.uint64pow10" .u64 Lib.pow10Tab
  rest : ∃ L, laidMet Tryz.prog L W ∧ ("loop.example/pub-g01453/pub/rustdemangle.rustBasicTypes", Rows.laid_loop_example_pub_g01453_pub_rustdemangle_rustBasicTypes) ∈ L ∧
    ("unicode/utf8.first", Rows.laid_unicode_utf8_first) ∈ L ∧ ("unicode/utf8.acceptRanges", Rows.laid_unicode_utf8_acceptRanges) ∈ L

/-- In w they are as they were. -/
def Tabs (B : Nat) (w : World) : Prop := ∃ W : World, TabsAt W ∧ W.heap.size ≤ B ∧ ∀ k, k < W.heap.size → w.heap[k]? = W.heap[k]?
theorem Tabs.same {B : Nat} {w w' : World} (h : Tabs B w) (hs : ∀ k, k < B → w'.heap[k]? = w.heap[k]?) : Tabs B w' := by
  obtain ⟨W, h1, h2, h3⟩ := h
  exact ⟨W, h1, h2, fun k hk => (hs k (by omega)).trans (h3 k hk)⟩

/-- A listed table is the same in a later world. -/
theorem tabIs_same {P : Program} {w w' : World} {name : String} {k : IntKind} {zs : List Int} (h : Lib.TabIs P w name k zs) (hs : ∀ i, i < w.heap.size → w'.heap[i]? = w.heap[i]?) : Lib.TabIs P w' name k zs := by
  unfold Lib.TabIs World.var? at *
  cases hg : P.globalNamed name with
  | none => simp [hg] at h
  | some g =>
    simp only [hg, Option.bind_some] at h ⊢
    have hlt : g < w.heap.size := by
      rcases Nat.lt_or_ge g w.heap.size with h' | h'
      · exact h'
      · rw [Array.getElem?_eq_none h'] at h; simp at h
    rw [hs g hlt]
    exact h
theorem Tabs.pow10 {B : Nat} {w : World} (h : Tabs B w) : Lib.TabIs Tryz.prog w "internal/strconv.uint64pow10" .u64 Lib.pow10Tab := by
  obtain ⟨W, h1, h2, h3⟩ := h
  exact tabIs_same h1.pow10 h3

/-- The reader lies in block b, its buffer in a row of its own, both from block B on. -/
structure RstV (B b : Nat) (r : RS) (ad buf : Value) (w : World) : Prop where
  hB : B ≤ b
  hw : B ≤ w.heap.size
  len : r.off + r.str.length ≤ 1000000000
  tab : Tabs B w
  heap : w.heap[b]? = some (.cells (r.cs ad buf) tR (0, 0))
  addr : (ad = .pointer none ∧ r.out = []) ∨ ad = .pointer (some ⟨b, 3, none⟩)
  own : w.ownsRow B tB 1 buf r.out.length (bv r.out)

def Rst (B b : Nat) (r : RS) (w : World) : Prop := ∃ ad buf, RstV B b r ad buf w
theorem Rst.open {B b : Nat} {r : RS} {w : World} (h : Rst B b r w) : ∃ ad buf, RstV B b r ad buf w := h
theorem Rst.len {B b : Nat} {r : RS} {w : World} (h : Rst B b r w) : r.off + r.str.length ≤ 1000000000 := by obtain ⟨ad, buf, h⟩ := h; exact h.len
theorem Rst.tab {B b : Nat} {r : RS} {w : World} (h : Rst B b r w) : Tabs B w := by obtain ⟨ad, buf, h⟩ := h; exact h.tab
theorem Rst.hB {B b : Nat} {r : RS} {w : World} (h : Rst B b r w) : B ≤ b := by obtain ⟨ad, buf, h⟩ := h; exact h.hB
theorem Rst.hw {B b : Nat} {r : RS} {w : World} (h : Rst B b r w) : B ≤ w.heap.size := by obtain ⟨ad, buf, h⟩ := h; exact h.hw
theorem Rst.lt {B b : Nat} {r : RS} {w : World} (h : Rst B b r w) : b < w.heap.size := by
  obtain ⟨ad, buf, h⟩ := h
  exact (Array.getElem?_eq_some_iff.1 h.heap).1
theorem Rst.kind {B b : Nat} {r : RS} {w : World} (h : Rst B b r w) : kindOf w.heap[b]? = some tR := by
  obtain ⟨ad, buf, h⟩ := h
  rw [h.heap]; rfl

section
variable {B b : Nat} {r : RS} {ad buf : Value} {w : World}
theorem RstV.rst (h : RstV B b r ad buf w) : Rst B b r w := ⟨ad, buf, h⟩
theorem RstV.c0 (h : RstV B b r ad buf w) : w.cell? ⟨b, 0, none⟩ = some (.string (bs r.orig)) := by rw [cellAt h.heap]; rfl
theorem RstV.c1 (h : RstV B b r ad buf w) : w.cell? ⟨b, 1, none⟩ = some (.string (bs r.str)) := by rw [cellAt h.heap]; rfl
theorem RstV.c2 (h : RstV B b r ad buf w) : w.cell? ⟨b, 2, none⟩ = some (.int .i64 r.off) := by rw [cellAt h.heap]; rfl
theorem RstV.c3 (h : RstV B b r ad buf w) : w.cell? ⟨b, 3, none⟩ = some ad := by rw [cellAt h.heap]; rfl
theorem RstV.c4 (h : RstV B b r ad buf w) : w.cell? ⟨b, 4, none⟩ = some buf := by rw [cellAt h.heap]; rfl
theorem RstV.c5 (h : RstV B b r ad buf w) : w.cell? ⟨b, 5, none⟩ = some (.bool r.skip) := by rw [cellAt h.heap]; rfl
theorem RstV.c6 (h : RstV B b r ad buf w) : w.cell? ⟨b, 6, none⟩ = some (.int .i64 r.life) := by rw [cellAt h.heap]; rfl
theorem RstV.c7 (h : RstV B b r ad buf w) : w.cell? ⟨b, 7, none⟩ = some (.int .u8 r.last) := by rw [cellAt h.heap]; rfl
theorem RstV.c8 (h : RstV B b r ad buf w) : w.cell? ⟨b, 8, none⟩ = some (.bool false) := by rw [cellAt h.heap]; rfl
theorem RstV.c9 (h : RstV B b r ad buf w) : w.cell? ⟨b, 9, none⟩ = some (.int .i64 0) := by rw [cellAt h.heap]; rfl
theorem RstV.fz (h : RstV B b r ad buf w) (j : Nat) : w.frozen? ⟨b, j, none⟩ = false := Lib.frozen_of_heap h.heap j
theorem RstV.kind (h : RstV B b r ad buf w) : kindOf w.heap[b]? = some tR := by rw [h.heap]; rfl
theorem RstV.drew (h : RstV B b r ad buf w) : RstV B b r ad buf w.drew := ⟨h.hB, h.hw, h.len, h.tab, h.heap, h.addr, h.own⟩
theorem RstV.drewN (h : RstV B b r ad buf w) (n : Nat) : RstV B b r ad buf (w.drewN n) := ⟨h.hB, h.hw, h.len, h.tab, h.heap, h.addr, h.own⟩

theorem RstV.put {j : Nat} {v : Value} (h : RstV B b r ad buf w) (r' : RS) (hc : (r.cs ad buf).setIfInBounds j v = r'.cs ad buf) (ho : r'.out = r.out) (hl : r'.off + r'.str.length ≤ 1000000000) :
    RstV B b r' ad buf (w.setCell ⟨b, j, none⟩ v) := by
  refine ⟨h.hB, by simpa [World.setCell] using h.hw, hl, h.tab.same (fun k hk => Below.heap_setCell _ _ _ _ (by have := h.hB; simp; omega)), by rw [setCell_heap h.heap, hc], by rw [ho]; exact h.addr, ?_⟩
  rw [ho]
  refine h.own.kept (row := some b) ⟨rfl, rfl, rfl, by simp [World.setCell], fun k _ hk => Below.heap_setCell _ _ _ _ (fun e => hk (by simp [e]))⟩ ?_
  exact .inr (Lib.ownBlock_ne h.own h.heap (by decide))

theorem RstV.setStr (h : RstV B b r ad buf w) (s : List UInt8) (hl : r.off + s.length ≤ 1000000000) : RstV B b { r with str := s } ad buf (w.setCell ⟨b, 1, none⟩ (.string (bs s))) := h.put _ rfl rfl hl
theorem RstV.setOff (h : RstV B b r ad buf w) (n : Nat) {i : Int} (hi : i = n) (hl : n + r.str.length ≤ 1000000000) : RstV B b { r with off := n } ad buf (w.setCell ⟨b, 2, none⟩ (.int .i64 i)) := by subst hi; exact h.put _ rfl rfl hl
theorem RstV.setSkip (h : RstV B b r ad buf w) (x : Bool) : RstV B b { r with skip := x } ad buf (w.setCell ⟨b, 5, none⟩ (.bool x)) := h.put _ rfl rfl h.len
theorem RstV.setLife (h : RstV B b r ad buf w) (n : Nat) {i : Int} (hi : i = n) : RstV B b { r with life := n } ad buf (w.setCell ⟨b, 6, none⟩ (.int .i64 i)) := by subst hi; exact h.put _ rfl rfl h.len
theorem RstV.setLast (h : RstV B b r ad buf w) (n : Nat) {i : Int} (hi : i = n) : RstV B b { r with last := n } ad buf (w.setCell ⟨b, 7, none⟩ (.int .u8 i)) := by subst hi; exact h.put _ rfl rfl h.len

theorem RstV.alloc (h : RstV B b r ad buf w) (o : Obj) : RstV B b r ad buf (w.alloc o) :=
  ⟨h.hB, by have := h.hw; simp; omega, h.len, h.tab.same (fun k hk => Below.heap_alloc _ _ _ (by have := h.hw; omega)), (Below.heap_alloc _ _ _ h.rst.lt).trans h.heap, h.addr, h.own.alloc o⟩

/-- A store into another block that is no row of bytes. -/
theorem RstV.setCell_other (h : RstV B b r ad buf w) (p : Addr) (u : Value) (hpB : B ≤ p.block) (hp : p.block ≠ b) (hk : kindOf w.heap[p.block]? ≠ some tB) : RstV B b r ad buf (w.setCell p u) := by
  obtain ⟨h1, h2, hl, ht, hb, h3, h4⟩ := h
  refine ⟨h1, by simpa [World.setCell] using h2, hl, ht.same (fun k hk => Below.heap_setCell _ _ _ _ (by omega)), (Below.heap_setCell _ _ _ _ (Ne.symm hp)).trans hb, h3, ?_⟩
  obtain ⟨h5, h6⟩ := h4
  refine ⟨h5, ?_⟩
  rcases h6 with h6 | ⟨g, cap, cur, hv, hg, hh, hr⟩
  · exact .inl h6
  · refine .inr ⟨g, cap, cur, hv, hg, ?_, hr⟩
    rw [Below.heap_setCell _ _ _ _ (fun e => hk (by rw [← e, hh]; rfl))]; exact hh

theorem RstV.keeps {a : World} (h : RstV B b r ad buf w) (k : Kept B a w) (j : Nat) (v : Value) : Kept B a (w.setCell ⟨b, j, none⟩ v) :=
  k.setCell (p := ⟨b, j, none⟩) (.inr ⟨h.hB, h.kind⟩) v
end

theorem Rst.drew {B b : Nat} {r : RS} {w : World} (h : Rst B b r w) : Rst B b r w.drew := by obtain ⟨ad, buf, h⟩ := h; exact h.drew.rst
theorem Rst.drewN {B b : Nat} {r : RS} {w : World} (h : Rst B b r w) (n : Nat) : Rst B b r (w.drewN n) := by obtain ⟨ad, buf, h⟩ := h; exact (h.drewN n).rst
theorem Rst.alloc {B b : Nat} {r : RS} {w : World} (h : Rst B b r w) (o : Obj) : Rst B b r (w.alloc o) := by obtain ⟨ad, buf, h⟩ := h; exact (h.alloc o).rst
theorem Rst.setCell_other {B b : Nat} {r : RS} {w : World} (h : Rst B b r w) (p : Addr) (u : Value) (hpB : B ≤ p.block) (hp : p.block ≠ b) (hk : kindOf w.heap[p.block]? ≠ some tB) : Rst B b r (w.setCell p u) := by
  obtain ⟨ad, buf, h⟩ := h; exact (h.setCell_other p u hpB hp hk).rst
theorem Rst.cast {B b : Nat} {r r' : RS} {w : World} (h : Rst B b r w) (e : r = r') : Rst B b r' w := e ▸ h

/-- What is written. -/
def RS.wr (r : RS) (l : List UInt8) : RS :=
  { r with out := if r.skip then r.out else r.out ++ l, last := if r.skip then r.last else (l.getLast?.map UInt8.toNat).getD r.last }

theorem RS.wr_skip (r : RS) (l : List UInt8) (h : r.skip = true) : r.wr l = r := by cases r; simp_all [RS.wr]
theorem RS.wr_say (r : RS) (l : List UInt8) (h : r.skip = false) : r.wr l = { r with out := r.out ++ l, last := (l.getLast?.map UInt8.toNat).getD r.last } := by simp [RS.wr, h]

end Go.Proofs.YtidokamjbglkbaaGreatDoor

