/- Plain words on digits. -/
import Derived.RowKit
namespace Go.Proofs.YtlpbhfmhndhbkaaGreatDoor

/-- The value of a digit in base 62. -/
def d62 (c : UInt8) : Nat := if c.toNat ≤ 57 then c.toNat - 48 else if c.toNat ≤ 90 then c.toNat - 65 + 36 else c.toNat - 97 + 10
def is62 (c : UInt8) : Prop := (48 ≤ c.toNat ∧ c.toNat ≤ 57) ∨ (97 ≤ c.toNat ∧ c.toNat ≤ 122) ∨ (65 ≤ c.toNat ∧ c.toNat ≤ 90)
def f62 (l : List UInt8) (x : Nat) : Nat := l.foldl (fun x c => x * 62 + d62 c) x
theorem f62_nil (x : Nat) : f62 [] x = x := rfl
theorem f62_cons (c : UInt8) (l : List UInt8) (x : Nat) : f62 (c :: l) x = f62 l (x * 62 + d62 c) := rfl
theorem f62_ge (l : List UInt8) : ∀ x, x ≤ f62 l x := by
  induction l with
  | nil => intro x; exact Nat.le_refl _
  | cons c l ih => intro x; rw [f62_cons]; exact Nat.le_trans (by omega) (ih _)

def is10 (c : UInt8) : Prop := 48 ≤ c.toNat ∧ c.toNat ≤ 57
instance (c : UInt8) : Decidable (is10 c) := inferInstanceAs (Decidable (_ ∧ _))
def f10 (l : List UInt8) (x : Nat) : Nat := l.foldl (fun x c => x * 10 + (c.toNat - 48)) x
theorem f10_nil (x : Nat) : f10 [] x = x := rfl
theorem f10_cons (c : UInt8) (l : List UInt8) (x : Nat) : f10 (c :: l) x = f10 l (x * 10 + (c.toNat - 48)) := by simp only [f10, List.foldl_cons]
theorem f10_ge (l : List UInt8) : ∀ x, x ≤ f10 l x := by
  induction l with
  | nil => intro x; exact Nat.le_refl _
  | cons c l ih => intro x; rw [f10_cons]; exact Nat.le_trans (by omega) (ih _)
/-- No digit stands in front. -/
def noDig (l : List UInt8) : Prop := ∀ c, l.head? = some c → ¬ is10 c

/-- A digit in base 62, and a number in base 62, written. -/
def dig62 (d : Nat) : UInt8 := UInt8.ofNat (if d < 10 then 48 + d else if d < 36 then 97 + (d - 10) else 65 + (d - 36))
def e62 (n : Nat) (acc : List UInt8) : List UInt8 := if n < 62 then dig62 n :: acc else e62 (n / 62) (dig62 (n % 62) :: acc)
termination_by n
decreasing_by omega
def b62 (n : Nat) : List UInt8 := if n = 0 then [95] else e62 (n - 1) [] ++ [95]

theorem dig62_nat (d : Nat) (h : d < 62) : (dig62 d).toNat = if d < 10 then 48 + d else if d < 36 then 97 + (d - 10) else 65 + (d - 36) := by
  unfold dig62
  rw [UInt8.toNat_ofNat_of_lt']
  show _ < 256
  split
  · omega
  · split <;> omega
theorem d62_dig (d : Nat) (h : d < 62) : d62 (dig62 d) = d := by
  unfold d62
  rw [dig62_nat d h]
  repeat' split
  all_goals omega
theorem is62_dig (d : Nat) (h : d < 62) : is62 (dig62 d) := by
  unfold is62
  rw [dig62_nat d h]
  split
  · omega
  · split <;> omega
theorem e62_f (n : Nat) : ∀ acc, f62 (e62 n acc) 0 = f62 acc n := by
  induction n using Nat.strongRecOn with
  | _ n ih =>
    intro acc
    rw [e62]
    split
    · rename_i h
      rw [f62_cons, d62_dig n h]; simp
    · rename_i h
      rw [ih _ (by omega), f62_cons, d62_dig _ (by omega)]
      congr 1; omega
theorem e62_is (n : Nat) : ∀ acc, (∀ c ∈ acc, is62 c) → ∀ c ∈ e62 n acc, is62 c := by
  induction n using Nat.strongRecOn with
  | _ n ih =>
    intro acc ha
    rw [e62]
    split
    · rename_i h
      intro c hc
      rcases List.mem_cons.1 hc with rfl | hc
      · exact is62_dig n h
      · exact ha c hc
    · rename_i h
      refine ih _ (by omega) _ ?_
      intro c hc
      rcases List.mem_cons.1 hc with rfl | hc
      · exact is62_dig _ (by omega)
      · exact ha c hc
theorem e62_ne (n : Nat) : ∀ acc, e62 n acc ≠ [] := by
  induction n using Nat.strongRecOn with
  | _ n ih =>
    intro acc
    rw [e62]
    split
    · simp
    · exact ih _ (by omega) _
theorem e62_len (n : Nat) : ∀ acc, n < 62 ^ 12 → (e62 n acc).length ≤ acc.length + 12 := by
  have : ∀ k n acc, n < 62 ^ (k + 1) → (e62 n acc).length ≤ acc.length + (k + 1) := by
    intro k
    induction k with
    | zero =>
      intro n acc h
      rw [e62, if_pos (by simpa using h)]; simp
    | succ k ih =>
      intro n acc h
      rw [e62]
      split
      · simp
      · have := ih (n / 62) (dig62 (n % 62) :: acc) (by
          rw [Nat.div_lt_iff_lt_mul (by decide)]
          calc n < 62 ^ (k + 1 + 1) := h
            _ = 62 ^ (k + 1) * 62 := Nat.pow_succ ..)
        simp at this; omega
  intro acc h
  exact this 11 n acc h
theorem b62_len (n : Nat) (h : n ≤ 4611686018427387904) : (b62 n).length ≤ 13 := by
  unfold b62
  split
  · simp
  · have := e62_len (n - 1) [] (by omega)
    simp at this ⊢; omega
/-- A disambiguator. -/
def dis (n : Nat) : List UInt8 := if n = 0 then [] else 115 :: b62 (n - 1)
theorem dis_len (n : Nat) (h : n ≤ 4611686018427387904) : (dis n).length ≤ 14 := by
  unfold dis
  split
  · simp
  · have := b62_len (n - 1) (by omega)
    simp; omega
/-- The text of a lifetime. -/
def lifeText (lb i : Nat) : List UInt8 := if i = 0 then [39, 95] else [39, UInt8.ofNat (97 + (lb - i))]
theorem lifeText_len (lb i : Nat) : (lifeText lb i).length = 2 := by unfold lifeText; split <;> rfl

/-- The bytes of which a written name is made. -/
def isId (c : UInt8) : Prop := is10 c ∨ (65 ≤ c.toNat ∧ c.toNat ≤ 90) ∨ (97 ≤ c.toNat ∧ c.toNat ≤ 122) ∨ c.toNat = 95
/-- What may stand between a name's number and its bytes. -/
def SepOk (sep tl : List UInt8) : Prop := sep = [95] ∨ (sep = [] ∧ noDig tl ∧ ∀ c, tl.head? = some c → c.toNat ≠ 95)

/-- Digits in base 16. -/
def d16 (c : UInt8) : Nat := if c.toNat ≤ 57 then c.toNat - 48 else c.toNat - 97 + 10
def is16 (c : UInt8) : Prop := (48 ≤ c.toNat ∧ c.toNat ≤ 57) ∨ (97 ≤ c.toNat ∧ c.toNat ≤ 102)
def f16 (l : List UInt8) (x : Nat) : Nat := l.foldl (fun x c => x * 16 + d16 c) x
theorem f16_nil (x : Nat) : f16 [] x = x := rfl
theorem f16_cons (c : UInt8) (l : List UInt8) (x : Nat) : f16 (c :: l) x = f16 l (x * 16 + d16 c) := by simp only [f16, List.foldl_cons]
theorem f16_ge (l : List UInt8) : ∀ x, x ≤ f16 l x := by
  induction l with
  | nil => intro x; exact Nat.le_refl _
  | cons c l ih => intro x; rw [f16_cons]; exact Nat.le_trans (by omega) (ih _)
theorem f16_append (l m : List UInt8) (x : Nat) : f16 (l ++ m) x = f16 m (f16 l x) := by simp [f16, List.foldl_append]
def dig16 (d : Nat) : UInt8 := UInt8.ofNat (if d < 10 then 48 + d else 97 + (d - 10))
/-- A number in base 16, written. -/
def h16 (n : Nat) : List UInt8 := if n < 16 then [dig16 n] else h16 (n / 16) ++ [dig16 (n % 16)]
termination_by n
decreasing_by omega
theorem dig16_nat (d : Nat) (h : d < 16) : (dig16 d).toNat = if d < 10 then 48 + d else 97 + (d - 10) := by
  unfold dig16
  rw [UInt8.toNat_ofNat_of_lt']
  show _ < 256
  split <;> omega
theorem d16_dig (d : Nat) (h : d < 16) : d16 (dig16 d) = d := by
  unfold d16
  rw [dig16_nat d h]
  repeat' split
  all_goals omega
theorem is16_dig (d : Nat) (h : d < 16) : is16 (dig16 d) := by
  unfold is16
  rw [dig16_nat d h]
  split <;> omega
theorem h16_f (n : Nat) : f16 (h16 n) 0 = n := by
  induction n using Nat.strongRecOn with
  | _ n ih =>
    rw [h16]
    split
    · rename_i h
      rw [f16_cons, f16_nil, d16_dig n h]; simp
    · rename_i h
      rw [f16_append, ih _ (by omega), f16_cons, f16_nil, d16_dig _ (by omega)]
      omega
theorem h16_is (n : Nat) : ∀ c ∈ h16 n, is16 c := by
  induction n using Nat.strongRecOn with
  | _ n ih =>
    rw [h16]
    split
    · rename_i h
      intro c hc
      simp at hc; subst hc
      exact is16_dig n h
    · rename_i h
      intro c hc
      rcases List.mem_append.1 hc with hc | hc
      · exact ih _ (by omega) c hc
      · simp at hc; subst hc
        exact is16_dig _ (by omega)
theorem h16_ne (n : Nat) : h16 n ≠ [] := by
  rw [h16]; split <;> simp
/-- No nought stands in front, but where it stands alone. -/
theorem h16_head (n : Nat) : ∃ c l, h16 n = c :: l ∧ (c.toNat = 48 → l = []) := by
  induction n using Nat.strongRecOn with
  | _ n ih =>
    rw [h16]
    split
    · exact ⟨_, [], rfl, fun _ => rfl⟩
    · rename_i h
      obtain ⟨c, l, e, hc⟩ := ih (n / 16) (by omega)
      refine ⟨c, l ++ [dig16 (n % 16)], by rw [e]; rfl, ?_⟩
      intro h48
      have hl := hc h48
      subst hl
      have hf := h16_f (n / 16)
      rw [e, f16_cons, f16_nil] at hf
      unfold d16 at hf
      rw [h48] at hf
      simp at hf
      omega
theorem h16_len (n k : Nat) (h : n < 16 ^ (k + 1)) : (h16 n).length ≤ k + 1 := by
  induction k generalizing n with
  | zero => rw [h16, if_pos (by simpa using h)]; simp
  | succ k ih =>
    rw [h16]
    split
    · simp
    · have := ih (n / 16) (by
        rw [Nat.div_lt_iff_lt_mul (by decide)]
        calc n < 16 ^ (k + 1 + 1) := h
          _ = 16 ^ (k + 1) * 16 := Nat.pow_succ ..)
      simp; omega
/-- Behind what has been read (x) the rest holds no nought too many. -/
def NZ (x : Nat) (todo : List UInt8) : Prop := x = 0 → ∀ c l, todo = c :: l → c.toNat = 48 → l = []
/-- A digit or an underscore stands in front. -/
def startsDU : List UInt8 → Bool
  | [] => false
  | c :: _ => decide (c.toNat = 95) || (decide (48 ≤ c.toNat) && decide (c.toNat ≤ 57))
def sepOf (e : Bool) (l : List UInt8) : List UInt8 := if e && startsDU l then [95] else []
def tailText (sep : List UInt8) (ts : List (List UInt8)) : List UInt8 := ts.flatMap fun t => sep ++ t
def joined (sep : List UInt8) : List (List UInt8) → List UInt8
  | [] => []
  | t :: ts => t ++ tailText sep ts
theorem tailText_cons (sep t : List UInt8) (ts : List (List UInt8)) : tailText sep (t :: ts) = sep ++ (t ++ tailText sep ts) := by simp [tailText]

end Go.Proofs.YtlpbhfmhndhbkaaGreatDoor
