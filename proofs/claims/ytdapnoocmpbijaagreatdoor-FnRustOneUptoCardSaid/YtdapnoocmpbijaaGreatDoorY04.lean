/- Punycode: what is written is read again. Plain lists and numbers. -/
import Derived.Test.YtdapnoocmpbijaaGreatDoorY03
import Derived.Lib.MapLaws
import Derived.Lib.ValidLaws
namespace Go.Proofs.YtdapnoocmpbijaaGreatDoor

/-- The threshold of a digit at a place (from 1 on). -/
def thr (place bias : Nat) : Nat := min (max (36 * place - bias) 1) 26
theorem thr_ge (p b : Nat) : 1 ≤ thr p b := by unfold thr; omega
theorem thr_le (p b : Nat) : thr p b ≤ 26 := by unfold thr; omega
theorem thr_mono (p b : Nat) : thr p b ≤ thr (p + 1) b := by unfold thr; omega

def adaptK (d k : Nat) : Nat := if 455 < d then adaptK (d / 35) (k + 36) else k + 36 * d / (d + 38)
termination_by d
decreasing_by omega
/-- The bias behind a delta. -/
def adaptD (delta many : Nat) (first : Bool) : Nat := (if first then delta / 700 else delta / 2) + (if first then delta / 700 else delta / 2) / many
def adapt (delta many : Nat) (first : Bool) : Nat := adaptK (adaptD delta many first) 0
theorem adaptK_le : ∀ (d k : Nat), d ≤ 455 * 35 ^ 8 → adaptK d k ≤ k + 36 * 8 + 36 := by
  have key : ∀ (m d k : Nat), d ≤ 455 * 35 ^ m → adaptK d k ≤ k + 36 * m + 36 := by
    intro m
    induction m with
    | zero =>
      intro d k h
      rw [adaptK, if_neg (by simp at h; omega)]
      have : 36 * d / (d + 38) ≤ 36 := Nat.div_le_of_le_mul (by rw [Nat.mul_comm]; exact Nat.mul_le_mul (by omega) (Nat.le_refl _))
      omega
    | succ m ih =>
      intro d k h
      rw [adaptK]
      split
      · have h2 : d / 35 ≤ 455 * 35 ^ m := by
          refine Nat.div_le_of_le_mul ?_
          rw [Nat.pow_succ] at h
          rw [← Nat.mul_assoc] at h
          omega
        have := ih (d / 35) (k + 36) h2
        omega
      · have : 36 * d / (d + 38) ≤ 36 := Nat.div_le_of_le_mul (by rw [Nat.mul_comm]; exact Nat.mul_le_mul (by omega) (Nat.le_refl _))
        omega
  exact fun d k h => key 8 d k h
theorem adapt_le (delta many : Nat) (first : Bool) (h : delta ≤ 68000000) (_ : 1 ≤ many) : adapt delta many first ≤ 400 := by
  have : adaptD delta many first ≤ 455 * 35 ^ 8 := by
    unfold adaptD
    have h1 : (if first then delta / 700 else delta / 2) ≤ 68000000 := by split <;> omega
    have h2 : (if first then delta / 700 else delta / 2) / many ≤ 68000000 := Nat.le_trans (Nat.div_le_self _ _) h1
    have : (136000000 : Nat) ≤ 455 * 35 ^ 8 := by decide
    omega
  have := adaptK_le _ 0 this
  unfold adapt; omega

/-- The byte of a digit. -/
def letter (d : Nat) : UInt8 := UInt8.ofNat (if d < 26 then 97 + d else 48 + (d - 26))
theorem letter_nat (d : Nat) (h : d < 36) : (letter d).toNat = if d < 26 then 97 + d else 48 + (d - 26) := by
  unfold letter
  rw [UInt8.toNat_ofNat_of_lt']
  show _ < 256
  split <;> omega
/-- The digits of a delta, from a place on. -/
def digitsOf (bias delta place : Nat) : List Nat :=
  if h : delta < thr place bias then [delta]
  else (thr place bias + (delta - thr place bias) % (36 - thr place bias)) :: digitsOf bias ((delta - thr place bias) / (36 - thr place bias)) (place + 1)
termination_by delta
decreasing_by
  have := thr_ge place bias
  have := thr_le place bias
  exact Nat.lt_of_le_of_lt (Nat.div_le_self _ _) (by omega)
theorem digitsOf_lt (bias : Nat) : ∀ (delta place : Nat), ∀ d ∈ digitsOf bias delta place, d < 36 := by
  intro delta
  induction delta using Nat.strongRecOn with
  | _ delta ih =>
    intro place d hd
    have h1 := thr_ge place bias
    have h2 := thr_le place bias
    rw [digitsOf] at hd
    split at hd
    · simp at hd; omega
    · rcases List.mem_cons.1 hd with rfl | hd
      · have := Nat.mod_lt (delta - thr place bias) (show 36 - thr place bias > 0 by omega)
        omega
      · exact ih _ (Nat.lt_of_le_of_lt (Nat.div_le_self _ _) (by omega)) _ d hd
theorem digitsOf_len (bias : Nat) : ∀ (m delta place : Nat), delta < 10 ^ m → (digitsOf bias delta place).length ≤ m + 1 := by
  intro m
  induction m with
  | zero =>
    intro delta place h
    have h1 := thr_ge place bias
    rw [digitsOf, dif_pos (by simp at h; omega)]; simp
  | succ m ih =>
    intro delta place h
    have h1 := thr_ge place bias
    have h2 := thr_le place bias
    rw [digitsOf]
    split
    · simp
    · have : (delta - thr place bias) / (36 - thr place bias) < 10 ^ m := by
        rw [Nat.div_lt_iff_lt_mul (by omega)]
        have : 10 ^ m * 10 ≤ 10 ^ m * (36 - thr place bias) := Nat.mul_le_mul (Nat.le_refl _) (by omega)
        rw [Nat.pow_succ] at h
        omega
      have := ih _ (place + 1) this
      simp only [List.length_cons]; omega
/-- A delta, written. -/
def wdelta (bias delta : Nat) : List UInt8 := (digitsOf bias delta 1).map letter

/-- The weight of a digit that is not the last one stays small. -/
theorem weight_ok {w place bias d : Nat} (h1 : w * d ≤ 68000000) (h2 : thr place bias ≤ d) (h3 : thr place bias = 1 → w = 35 ^ (place - 1)) : w < 59652323 := by
  have ht := thr_ge place bias
  by_cases h : 2 ≤ thr place bias
  · have : w * 2 ≤ w * d := Nat.mul_le_mul (Nat.le_refl _) (by omega)
    omega
  · have hw := h3 (by omega)
    have hd : w * 1 ≤ w * d := Nat.mul_le_mul (Nat.le_refl _) (by omega)
    by_cases h6 : place - 1 ≤ 5
    · have : 35 ^ (place - 1) ≤ 35 ^ 5 := Nat.pow_le_pow_right (by decide) h6
      have e : (35 ^ 5 : Nat) = 52521875 := by decide
      omega
    · have : 35 ^ 6 ≤ 35 ^ (place - 1) := Nat.pow_le_pow_right (by decide) (by omega)
      have e : (35 ^ 6 : Nat) = 1838265625 := by decide
      omega

/-- A character laid at a place. -/
def insAt (l : List Nat) (r x : Nat) : List Nat := l.take r ++ x :: l.drop r
theorem insAt_len (l : List Nat) (r x : Nat) (h : r ≤ l.length) : (insAt l r x).length = l.length + 1 := by simp [insAt]; omega
/-- A character that Punycode may tell. -/
def scalar (n : Nat) : Prop := n < 55296 ∨ (57343 < n ∧ n ≤ 1114111)

/-- What the rest of the digits tells, from a state on: characters are laid into a list. -/
inductive Pun : Nat → Nat → Nat → List Nat → List UInt8 → List Nat → Prop
  | done (i n bias : Nat) (out : List Nat) : Pun i n bias out [] out
  | step (i n bias delta q r : Nat) (out rest fin) (hd : delta ≤ 68000000) (hq : i + delta = q * (out.length + 1) + r) (hr : r ≤ out.length) (hs : scalar (n + q)) (hb : bias ≤ 400)
      (h : Pun (r + 1) (n + q) (adapt delta (out.length + 1) (decide (i = 0))) (insAt out r (n + q)) rest fin) : Pun i n bias out (wdelta bias delta ++ rest) fin

/-- Of a list: what stands in the reader's list when the writer has come to place p in the round of the character now. -/
def sofar (L : List Nat) (now p : Nat) : List Nat := (L.take p).filter (fun x => decide (x ≤ now)) ++ (L.drop p).filter (fun x => decide (x < now))
def cntAt (L : List Nat) (now p : Nat) : Nat := ((L.take p).filter fun x => decide (x ≤ now)).length

/-- What holds of the writer (e: the digits so far) beside the reader. -/
structure PInv (L basic : List Nat) (now p delta bias many : Nat) (first : Bool) (e : List UInt8) : Prop where
  ex : ∃ i n, (∀ rest fin, Pun i n bias (sofar L now p) rest fin → Pun 0 128 72 basic (e ++ rest) fin) ∧ delta + i + n * (many + 1) = now * (many + 1) + cntAt L now p ∧ (first = decide (i = 0))
  hmany : many = (sofar L now p).length
  hbias : bias ≤ 400
  hlen : e.length ≤ 9 * many
  hbyte : ∀ c ∈ e, ∃ d, d < 36 ∧ c = letter d

theorem cnt_le (L : List Nat) (now p : Nat) : cntAt L now p ≤ (sofar L now p).length := by simp [cntAt, sofar]
theorem sofar_zero (L : List Nat) (now : Nat) : sofar L now 0 = L.filter fun x => decide (x < now) := by simp [sofar]
theorem cnt_zero (L : List Nat) (now : Nat) : cntAt L now 0 = 0 := by simp [cntAt]
theorem filter_len_le (L : List Nat) (f : Nat → Bool) : (L.filter f).length ≤ L.length := List.length_filter_le _ _
theorem sofar_len (L : List Nat) (now p : Nat) : (sofar L now p).length ≤ L.length := by
  unfold sofar
  rw [List.length_append]
  have h1 := List.length_filter_le (fun x => decide (x ≤ now)) (L.take p)
  have h2 := List.length_filter_le (fun x => decide (x < now)) (L.drop p)
  simp at h1 h2 ⊢; omega

section
variable {L basic : List Nat} {now p delta bias many : Nat} {first : Bool} {e : List UInt8}
theorem PInv.start (hb : basic = L.filter fun x => decide (x < 128)) : PInv L basic 128 0 0 72 basic.length true [] := by
  refine ⟨⟨0, 128, ?_, ?_, rfl⟩, ?_, by omega, by simp, by simp⟩
  · intro rest fin h
    rw [sofar_zero, ← hb] at h
    exact h
  · rw [cnt_zero]; omega
  · rw [sofar_zero, ← hb]
/-- On to the next character. -/
theorem PInv.next (h : PInv L basic now 0 delta bias many first e) (nx : Nat) (hnx : now ≤ nx) (hno : ∀ x ∈ L, x < nx → x < now) : PInv L basic nx 0 (delta + (nx - now) * (many + 1)) bias many first e := by
  have hs : sofar L nx 0 = sofar L now 0 := by
    rw [sofar_zero, sofar_zero]
    refine List.filter_congr fun x hx => ?_
    have := hno x hx
    simp; omega
  obtain ⟨⟨i, n, h1, h2, h3⟩, h4, h5, h6, h7⟩ := h
  refine ⟨⟨i, n, by rw [hs]; exact h1, ?_, h3⟩, by rw [hs]; exact h4, h5, h6, h7⟩
  rw [cnt_zero] at h2 ⊢
  have : nx * (many + 1) = now * (many + 1) + (nx - now) * (many + 1) := by rw [← Nat.add_mul]; congr 1; omega
  omega
theorem take_next (L : List Nat) (p : Nat) (hp : p < L.length) : L.take (p + 1) = L.take p ++ [L[p]] := by
  rw [List.take_add_one, List.getElem?_eq_getElem hp]; rfl
/-- A lesser character. -/
theorem PInv.less (h : PInv L basic now p delta bias many first e) (hp : p < L.length) (hlt : L[p] < now) : PInv L basic now (p + 1) (delta + 1) bias many first e := by
  have hs : sofar L now (p + 1) = sofar L now p := by
    have h1 : decide (L[p] ≤ now) = true := by simp; omega
    have h2 : decide (L[p] < now) = true := by simpa using hlt
    have e2 : (L.drop p).filter (fun x => decide (x < now)) = L[p] :: (L.drop (p + 1)).filter (fun x => decide (x < now)) := by rw [List.drop_eq_getElem_cons hp, List.filter_cons, if_pos h2]
    have e1 : [L[p]].filter (fun x => decide (x ≤ now)) = [L[p]] := by rw [List.filter_cons, if_pos h1]; rfl
    unfold sofar
    rw [take_next L p hp, List.filter_append, e1, e2, List.append_assoc]; rfl
  have hc : cntAt L now (p + 1) = cntAt L now p + 1 := by
    unfold cntAt
    rw [take_next L p hp, List.filter_append]
    have h1 : decide (L[p] ≤ now) = true := by simp; omega
    simp [h1]
  obtain ⟨⟨i, n, h1, h2, h3⟩, h4, h5, h6, h7⟩ := h
  exact ⟨⟨i, n, by rw [hs]; exact h1, by rw [hc]; omega, h3⟩, by rw [hs]; exact h4, h5, h6, h7⟩
/-- A greater one. -/
theorem PInv.more (h : PInv L basic now p delta bias many first e) (hp : p < L.length) (hgt : now < L[p]) : PInv L basic now (p + 1) delta bias many first e := by
  have h1 : decide (L[p] ≤ now) = false := by simp; omega
  have h2 : decide (L[p] < now) = false := by simp; omega
  have hs : sofar L now (p + 1) = sofar L now p := by
    have e2 : (L.drop p).filter (fun x => decide (x < now)) = (L.drop (p + 1)).filter (fun x => decide (x < now)) := by rw [List.drop_eq_getElem_cons hp, List.filter_cons, h2]; rfl
    have e1 : [L[p]].filter (fun x => decide (x ≤ now)) = [] := by rw [List.filter_cons, h1]; rfl
    unfold sofar
    rw [take_next L p hp, List.filter_append, e1, e2, List.append_nil]
  have hc : cntAt L now (p + 1) = cntAt L now p := by
    unfold cntAt
    rw [take_next L p hp, List.filter_append]
    simp [h1]
  obtain ⟨⟨i, n, h3, h4, h5⟩, h6, h7, h8, h9⟩ := h
  exact ⟨⟨i, n, by rw [hs]; exact h3, by rw [hc]; omega, h5⟩, by rw [hs]; exact h6, h7, h8, h9⟩
/-- How great a delta is. -/
theorem PInv.delta_le (h : PInv L basic now p delta bias many first e) (hn : now ≤ 1114111) (hL : L.length ≤ 60) : delta ≤ 1114111 * 61 + 60 := by
  obtain ⟨⟨i, n, _, h2, _⟩, h4, _⟩ := h
  have hc := cnt_le L now p
  have hl := sofar_len L now p
  have : now * (many + 1) ≤ 1114111 * 61 := Nat.mul_le_mul hn (by omega)
  omega
theorem wdelta_len (bias delta : Nat) (h : delta ≤ 68000000) : (wdelta bias delta).length ≤ 9 := by
  unfold wdelta
  rw [List.length_map]
  exact digitsOf_len bias 8 delta 1 (by omega)
theorem wdelta_byte (bias delta : Nat) : ∀ c ∈ wdelta bias delta, ∃ d, d < 36 ∧ c = letter d := by
  intro c hc
  obtain ⟨d, hd, rfl⟩ := List.mem_map.1 hc
  exact ⟨d, digitsOf_lt bias delta 1 d hd, rfl⟩
/-- The character itself: its delta is written. -/
theorem PInv.same (h : PInv L basic now p delta bias many first e) (hp : p < L.length) (he : L[p] = now) (hs : scalar now) (hd : delta ≤ 68000000) :
    PInv L basic now (p + 1) 0 (adapt delta (many + 1) first) (many + 1) false (e ++ wdelta bias delta) := by
  have h1 : decide (L[p] ≤ now) = true := by simp; omega
  have h2 : decide (L[p] < now) = false := by simp; omega
  have hso : sofar L now p = (L.take p).filter (fun x => decide (x ≤ now)) ++ (L.drop (p + 1)).filter (fun x => decide (x < now)) := by
    unfold sofar
    rw [List.drop_eq_getElem_cons hp, List.filter_cons, h2]; rfl
  have hsn : sofar L now (p + 1) = (L.take p).filter (fun x => decide (x ≤ now)) ++ now :: (L.drop (p + 1)).filter (fun x => decide (x < now)) := by
    unfold sofar
    rw [take_next L p hp, List.filter_append, List.append_assoc]
    have e1 : [L[p]].filter (fun x => decide (x ≤ now)) = [now] := by rw [List.filter_cons, if_pos h1, he]; rfl
    rw [e1]; rfl
  have hc : cntAt L now (p + 1) = cntAt L now p + 1 := by
    unfold cntAt
    rw [take_next L p hp, List.filter_append]
    simp [h1]
  have hin : insAt (sofar L now p) (cntAt L now p) now = sofar L now (p + 1) := by
    rw [hso, hsn]
    unfold insAt cntAt
    rw [List.take_left, List.drop_left]
  have hcl := cnt_le L now p
  obtain ⟨⟨i, n, h3, h4, h5⟩, h6, h7, h8, h9⟩ := h
  have hn : n ≤ now := by
    rcases Nat.lt_or_ge now n with hlt | hge
    · have : (now + 1) * (many + 1) ≤ n * (many + 1) := Nat.mul_le_mul hlt (Nat.le_refl _)
      rw [Nat.add_mul] at this
      omega
    · exact hge
  have hq : i + delta = (now - n) * ((sofar L now p).length + 1) + cntAt L now p := by
    rw [← h6]
    have : now * (many + 1) = (now - n) * (many + 1) + n * (many + 1) := by rw [← Nat.add_mul]; congr 1; omega
    omega
  have hnn : n + (now - n) = now := by omega
  refine ⟨⟨cntAt L now p + 1, now, ?_, ?_, by simp⟩, ?_, adapt_le _ _ _ hd (by omega), ?_, ?_⟩
  · intro rest fin hP
    rw [List.append_assoc]
    refine h3 _ _ (.step i n bias delta (now - n) (cntAt L now p) _ rest fin hd hq hcl (by rw [hnn]; exact hs) h7 ?_)
    rw [hnn, hin, ← h6, ← h5]
    exact hP
  · rw [hc]; omega
  · rw [hsn, List.length_append, List.length_cons, h6, hso, List.length_append]; omega
  · have := wdelta_len bias delta hd
    rw [List.length_append]; omega
  · intro c hc
    rcases List.mem_append.1 hc with hc | hc
    · exact h9 c hc
    · exact wdelta_byte bias delta c hc
/-- The round's end. -/
theorem PInv.over (h : PInv L basic now p delta bias many first e) (hp : p = L.length) : PInv L basic (now + 1) 0 (delta + 1) bias many first e := by
  subst hp
  have hs : sofar L (now + 1) 0 = sofar L now L.length := by
    rw [sofar_zero]
    unfold sofar
    simp only [List.take_length, List.drop_length, List.filter_nil, List.append_nil]
    refine List.filter_congr fun x _ => ?_
    simp; omega
  have hc : cntAt L now L.length = (sofar L now L.length).length := by
    unfold sofar cntAt
    simp
  obtain ⟨⟨i, n, h3, h4, h5⟩, h6, h7, h8, h9⟩ := h
  refine ⟨⟨i, n, by rw [hs]; exact h3, ?_, h5⟩, by rw [hs]; exact h6, h7, h8, h9⟩
  rw [cnt_zero]
  rw [hc, ← h6] at h4
  rw [Nat.add_mul]; omega
/-- All have been written. -/
theorem PInv.fin (h : PInv L basic now 0 delta bias many first e) (hall : ∀ x ∈ L, x < now) : Pun 0 128 72 basic e L := by
  have hs : sofar L now 0 = L := by
    rw [sofar_zero]
    exact List.filter_eq_self.2 fun x hx => by simpa using hall x hx
  obtain ⟨⟨i, n, h3, _, _⟩, _⟩ := h
  have := h3 [] L (by rw [hs]; exact .done _ _ _ _)
  simpa using this
end

/-- The writer's state. -/
structure PS where
  delta : Nat
  bias : Nat
  many : Nat
  first : Bool
  text : List UInt8
/-- One character in the round of the character now. -/
def pstep (now : Nat) (s : PS) (c : Nat) : PS :=
  if c < now then { s with delta := s.delta + 1 }
  else if c = now then ⟨0, adapt s.delta (s.many + 1) s.first, s.many + 1, false, s.text ++ wdelta s.bias s.delta⟩ else s
def pround (now : Nat) (l : List Nat) (s : PS) : PS := l.foldl (pstep now) s
def PS.go (s : PS) (now nx : Nat) : PS := { s with delta := s.delta + (nx - now) * (s.many + 1) }
def PS.up (s : PS) : PS := { s with delta := s.delta + 1 }
/-- The least character that is at least some number. -/
def nextF (least : Nat) (nx : Option Nat) (c : Nat) : Option Nat := if least ≤ c ∧ (nx.all fun y => decide (c < y)) = true then some c else nx
def nextOf (L : List Nat) (least : Nat) : Option Nat := L.foldl (nextF least) none
def pouter (L : List Nat) : Nat → Nat → PS → PS
  | 0, _, s => s
  | f + 1, now, s => match nextOf L now with
    | none => s
    | some nx => pouter L f (nx + 1) (pround nx L (s.go now nx)).up
/-- The plain characters' bytes. -/
def basicOf (L : List Nat) : List Nat := L.filter fun x => decide (x < 128)
def bytesOf (L : List Nat) : List UInt8 := L.map UInt8.ofNat
def pstart (L : List Nat) : PS := ⟨0, 72, (basicOf L).length, true, bytesOf (basicOf L) ++ (if (basicOf L).length = 0 then [] else [95])⟩
/-- The Punycode of characters. -/
def punyOf (L : List Nat) : List UInt8 := (pouter L (L.length + 1) 128 (pstart L)).text

theorem nextF_some {least : Nat} {l : List Nat} : ∀ {nx : Option Nat} {y : Nat}, l.foldl (nextF least) nx = some y →
    (nx = some y ∨ (y ∈ l ∧ least ≤ y)) ∧ (∀ x ∈ l, least ≤ x → y ≤ x) ∧ (∀ z, nx = some z → y ≤ z) := by
  induction l with
  | nil => intro nx y h; simp at h; subst h; exact ⟨.inl rfl, by simp, fun z hz => by cases hz; exact Nat.le_refl _⟩
  | cons c l ih =>
    intro nx y h
    simp only [List.foldl_cons] at h
    obtain ⟨h1, h2, h3⟩ := ih h
    unfold nextF at h1 h3
    split at h1
    · rename_i hc
      rw [if_pos hc] at h3
      have hy := h3 c rfl
      refine ⟨?_, ?_, ?_⟩
      · rcases h1 with h1 | ⟨h1, h1'⟩
        · cases h1; exact .inr ⟨by simp, hc.1⟩
        · exact .inr ⟨by simp [h1], h1'⟩
      · intro x hx hl
        rcases List.mem_cons.1 hx with rfl | hx
        · exact hy
        · exact h2 x hx hl
      · intro z hz
        subst hz
        have := hc.2
        simp at this; omega
    · rename_i hc
      rw [if_neg hc] at h3
      refine ⟨?_, ?_, h3⟩
      · rcases h1 with h1 | ⟨h1, h1'⟩
        · exact .inl h1
        · exact .inr ⟨by simp [h1], h1'⟩
      · intro x hx hl
        rcases List.mem_cons.1 hx with rfl | hx
        · cases nx with
          | none => exact absurd ⟨hl, rfl⟩ hc
          | some z =>
            have := h3 z rfl
            rcases Nat.lt_or_ge x z with hlt | hge
            · exact absurd ⟨hl, by simpa using hlt⟩ hc
            · omega
        · exact h2 x hx hl
theorem nextF_none {least : Nat} {l : List Nat} : ∀ {nx : Option Nat}, l.foldl (nextF least) nx = none → nx = none ∧ ∀ x ∈ l, x < least := by
  induction l with
  | nil => intro nx h; exact ⟨by simpa using h, by simp⟩
  | cons c l ih =>
    intro nx h
    simp only [List.foldl_cons] at h
    obtain ⟨h1, h2⟩ := ih h
    unfold nextF at h1
    split at h1
    · cases h1
    · rename_i hc
      subst h1
      refine ⟨rfl, ?_⟩
      intro x hx
      rcases List.mem_cons.1 hx with rfl | hx
      · rcases Nat.lt_or_ge x least with hlt | hge
        · exact hlt
        · exact absurd ⟨hge, rfl⟩ hc
      · exact h2 x hx

/-- The invariant over a state whose text begins with base. -/
def SInv (L : List Nat) (base : List UInt8) (now p : Nat) (s : PS) : Prop := ∃ e, s.text = base ++ e ∧ PInv L (basicOf L) now p s.delta s.bias s.many s.first e

theorem SInv.round {L : List Nat} {base : List UInt8} {now : Nat} (hn : now ≤ 1114111) (hL : L.length ≤ 60) (hs : scalar now) : ∀ (m p : Nat) (s : PS), L.length - p = m → p ≤ L.length → SInv L base now p s → SInv L base now L.length (pround now (L.drop p) s) := by
  intro m
  induction m with
  | zero =>
    intro p s hm hp h
    obtain rfl : p = L.length := by omega
    rw [List.drop_length]; exact h
  | succ m ih =>
    intro p s hm hp h
    have hp' : p < L.length := by omega
    rw [List.drop_eq_getElem_cons hp']
    show SInv L base now L.length (pround now (L.drop (p + 1)) (pstep now s L[p]))
    refine ih (p + 1) _ (by omega) (by omega) ?_
    obtain ⟨e, he, hI⟩ := h
    unfold pstep
    split
    · rename_i hlt; exact ⟨e, he, hI.less hp' hlt⟩
    · split
      · rename_i heq
        have hd := hI.delta_le hn hL
        exact ⟨e ++ wdelta s.bias s.delta, by rw [he, List.append_assoc], hI.same hp' heq hs (by omega)⟩
      · exact ⟨e, he, hI.more hp' (by omega)⟩

def above (L : List Nat) (now : Nat) : Nat := (L.filter fun x => decide (now ≤ x)).length
theorem above_lt {L : List Nat} {now y : Nat} (hy : y ∈ L) (h : now ≤ y) : above L (y + 1) < above L now := by
  unfold above
  have : ∀ l : List Nat, (l.filter fun x => decide (y + 1 ≤ x)).length ≤ (l.filter fun x => decide (now ≤ x)).length := by
    intro l
    induction l with
    | nil => simp
    | cons c l ih =>
      simp only [List.filter_cons]
      by_cases h1 : y + 1 ≤ c
      · rw [if_pos (by simpa using h1), if_pos (by simp; omega)]; simpa using ih
      · rw [if_neg (by simpa using h1)]
        split
        · simp; omega
        · exact ih
  induction L with
  | nil => cases hy
  | cons c l ih =>
    simp only [List.filter_cons]
    rcases List.mem_cons.1 hy with rfl | hy
    · rw [if_neg (by simp), if_pos (by simpa using h)]
      have := this l
      simp; omega
    · have := ih hy
      by_cases h1 : y + 1 ≤ c
      · rw [if_pos (by simpa using h1), if_pos (by simp; omega)]; simp; omega
      · rw [if_neg (by simpa using h1)]
        split
        · simp; omega
        · exact this

theorem SInv.outer {L : List Nat} {base : List UInt8} (hL : L.length ≤ 60) (hsc : ∀ x ∈ L, scalar x) : ∀ (f now : Nat) (s : PS), above L now < f → SInv L base now 0 s →
    ∃ e, (pouter L f now s).text = base ++ e ∧ Pun 0 128 72 (basicOf L) e L ∧ e.length ≤ 9 * L.length ∧ ∀ c ∈ e, ∃ d, d < 36 ∧ c = letter d := by
  intro f
  induction f with
  | zero => intro now s h; omega
  | succ f ih =>
    intro now s hf h
    unfold pouter
    cases hnx : nextOf L now with
    | none =>
      obtain ⟨e, he, hI⟩ := h
      have hall := (nextF_none hnx).2
      have hm := hI.hmany
      have hl := sofar_len L now 0
      exact ⟨e, he, hI.fin hall, Nat.le_trans hI.hlen (by omega), hI.hbyte⟩
    | some nx =>
      obtain ⟨h1, h2, _⟩ := nextF_some hnx
      have hmem : nx ∈ L ∧ now ≤ nx := by
        rcases h1 with h1 | h1
        · cases h1
        · exact h1
      have hno : ∀ x ∈ L, x < nx → x < now := by
        intro x hx hlt
        rcases Nat.lt_or_ge x now with h | h
        · exact h
        · have := h2 x hx h; omega
      have hs := hsc nx hmem.1
      have hn : nx ≤ 1114111 := by unfold scalar at hs; omega
      obtain ⟨e, he, hI⟩ := h
      have h3 : SInv L base nx 0 (s.go now nx) := ⟨e, he, hI.next nx hmem.2 hno⟩
      have h4 := SInv.round hn hL hs L.length 0 _ (by omega) (Nat.zero_le _) h3
      rw [List.drop_zero] at h4
      obtain ⟨e2, he2, hI2⟩ := h4
      exact ih (nx + 1) _ (by have := above_lt hmem.1 hmem.2; omega) ⟨e2, he2, hI2.over rfl⟩

/-- What is written of characters is read as them. -/
theorem puny_read (L : List Nat) (hL : L.length ≤ 60) (hsc : ∀ x ∈ L, scalar x) : ∃ e, punyOf L = (bytesOf (basicOf L) ++ (if (basicOf L).length = 0 then [] else [95])) ++ e ∧ Pun 0 128 72 (basicOf L) e L ∧ e.length ≤ 9 * L.length ∧
    ∀ c ∈ e, ∃ d, d < 36 ∧ c = letter d := by
  have h0 : SInv L (bytesOf (basicOf L) ++ (if (basicOf L).length = 0 then [] else [95])) 128 0 (pstart L) := ⟨[], by simp [pstart], PInv.start rfl⟩
  exact SInv.outer hL hsc (L.length + 1) 128 _ (by unfold above; have := List.length_filter_le (fun x => decide (128 ≤ x)) L; omega) h0
end Go.Proofs.YtdapnoocmpbijaaGreatDoor

/- Characters of a text in UTF-8. Plain lists. -/
namespace Go.Proofs.YtdapnoocmpbijaaGreatDoor
open Go.Lib (decodeL validD)

/-- A character's bytes. -/
def enc8 (c : Nat) : List UInt8 := (Utf8.encode (c : Int)).data.toList
def charsF : Nat → List UInt8 → List Nat
  | 0, _ => []
  | f + 1, l => if l = [] then [] else (decodeL l).1 :: charsF f (l.drop (decodeL l).2)
def chars (l : List UInt8) : List Nat := charsF l.length l

theorem decode_pos (l : List UInt8) : 1 ≤ (decodeL l).2 := by
  rw [Lib.decodeL_N]
  unfold Lib.decodeN
  repeat' split
  all_goals simp
theorem charsF_fuel : ∀ (n m : Nat) (l : List UInt8), l.length ≤ n → l.length ≤ m → charsF n l = charsF m l
  | 0, 0, _, _, _ => rfl
  | 0, m + 1, l, h, _ => by
    have : l = [] := List.eq_nil_of_length_eq_zero (by omega)
    subst this; simp [charsF]
  | n + 1, 0, l, _, h => by
    have : l = [] := List.eq_nil_of_length_eq_zero (by omega)
    subst this; simp [charsF]
  | n + 1, m + 1, l, h1, h2 => by
    simp only [charsF]
    split
    · rfl
    · rename_i hne
      have hp := decode_pos l
      have hl : 1 ≤ l.length := by cases l <;> simp_all
      rw [charsF_fuel n m _ (by simp; omega) (by simp; omega)]
theorem chars_nil : chars [] = [] := rfl
theorem chars_step (l : List UInt8) (hne : l ≠ []) : chars l = (decodeL l).1 :: chars (l.drop (decodeL l).2) := by
  have hl : 1 ≤ l.length := by cases l <;> simp_all
  obtain ⟨n, hn⟩ : ∃ n, l.length = n + 1 := ⟨l.length - 1, by omega⟩
  have hp := decode_pos l
  unfold chars
  rw [hn]
  simp only [charsF, hne, if_false]
  rw [charsF_fuel n _ _ (by simp; omega) (Nat.le_refl _)]
theorem chars_len : ∀ (n : Nat) (l : List UInt8), l.length ≤ n → (chars l).length ≤ l.length
  | 0, l, h => by
    have : l = [] := List.eq_nil_of_length_eq_zero (by omega)
    subst this; simp [chars_nil]
  | n + 1, l, h => by
    by_cases hne : l = []
    · subst hne; simp [chars_nil]
    · have hp := decode_pos l
      have hl : 1 ≤ l.length := by cases l <;> simp_all
      have := chars_len n (l.drop (decodeL l).2) (by simp; omega)
      rw [chars_step l hne, List.length_cons]
      simp at this; omega

theorem enc_cases (r : Nat) : (r < 128 ∧ (Utf8.encode (r : Int)).data.toList = [UInt8.ofNat r]) ∨ (128 ≤ r ∧ r < 2048 ∧ (Utf8.encode (r : Int)).data.toList = [UInt8.ofNat (192 + r / 64), UInt8.ofNat (128 + r % 64)]) ∨
    (((55296 ≤ r ∧ r ≤ 57343) ∨ 1114111 < r) ∧ (Utf8.encode (r : Int)).data.toList = [239, 191, 189]) ∨
    (2048 ≤ r ∧ r < 65536 ∧ ¬ (55296 ≤ r ∧ r ≤ 57343) ∧ (Utf8.encode (r : Int)).data.toList = [UInt8.ofNat (224 + r / 4096), UInt8.ofNat (128 + r / 64 % 64), UInt8.ofNat (128 + r % 64)]) ∨
    (65536 ≤ r ∧ r ≤ 1114111 ∧ (Utf8.encode (r : Int)).data.toList = [UInt8.ofNat (240 + r / 262144), UInt8.ofNat (128 + r / 4096 % 64), UInt8.ofNat (128 + r / 64 % 64), UInt8.ofNat (128 + r % 64)]) := by
  by_cases c1 : r < 128
  · have v : Utf8.valid (r : Int) = true := by simp [Utf8.valid]; omega
    exact .inl ⟨c1, by simp [Utf8.encode, v, c1]⟩
  by_cases c2 : r < 2048
  · have v : Utf8.valid (r : Int) = true := by simp [Utf8.valid]; omega
    exact .inr (.inl ⟨by omega, c2, by simp [Utf8.encode, v, c1, c2]⟩)
  by_cases hb : (55296 ≤ r ∧ r ≤ 57343) ∨ 1114111 < r
  · have v : Utf8.valid (r : Int) = false := by simp [Utf8.valid]; omega
    exact .inr (.inr (.inl ⟨hb, by simp [Utf8.encode, v, Utf8.runeError]⟩))
  by_cases c3 : r < 65536
  · have v : Utf8.valid (r : Int) = true := by simp [Utf8.valid]; omega
    exact .inr (.inr (.inr (.inl ⟨by omega, c3, by omega, by simp [Utf8.encode, v, c1, c2, c3]⟩)))
  · have v : Utf8.valid (r : Int) = true := by simp [Utf8.valid]; omega
    exact .inr (.inr (.inr (.inr ⟨by omega, by omega, by simp [Utf8.encode, v, c1, c2, c3]⟩)))
theorem encode_same (r : Nat) : (Utf8.encode (r : Int)).data.toList = Lib.encodeRune (r : Int) := by
  unfold Lib.encodeRune
  rcases enc_cases r with ⟨h, e⟩ | ⟨h1, h2, e⟩ | ⟨h, e⟩ | ⟨h1, h2, h3, e⟩ | ⟨h1, h2, e⟩
  · rw [e, Lib.encodeRuneZ_one (by omega) (by omega)]; rfl
  · rw [e, Lib.encodeRuneZ_two (by omega) (by omega)]; rfl
  · rw [e, Lib.encodeRuneZ_bad (by omega)]; rfl
  · rw [e, Lib.encodeRuneZ_three (by omega)]; rfl
  · rw [e, Lib.encodeRuneZ_four (by omega) (by omega)]; rfl
set_option maxRecDepth 100000 in
/-- The bytes of a character that is not plain are none of ASCII. -/
theorem enc8_high (r : Nat) (h : 128 ≤ r) : ∀ b ∈ enc8 r, 128 ≤ b.toNat := by
  unfold enc8
  intro b hb
  rcases enc_cases r with ⟨h, e⟩ | ⟨h1, h2, e⟩ | ⟨h, e⟩ | ⟨h1, h2, h3, e⟩ | ⟨h1, h2, e⟩
  all_goals rw [e] at hb
  all_goals simp only [List.mem_cons, List.not_mem_nil, or_false] at hb
  · omega
  · rcases hb with rfl | rfl
    all_goals (rw [UInt8.toNat_ofNat_of_lt' (by show _ < 256; omega)]; omega)
  · rcases hb with rfl | rfl | rfl
    all_goals decide
  · rcases hb with rfl | rfl | rfl
    all_goals (rw [UInt8.toNat_ofNat_of_lt' (by show _ < 256; omega)]; omega)
  · rcases hb with rfl | rfl | rfl | rfl
    all_goals (rw [UInt8.toNat_ofNat_of_lt' (by show _ < 256; omega)]; omega)
set_option maxRecDepth 100000 in
theorem enc8_low (r : Nat) (h : r < 128) : enc8 r = [UInt8.ofNat r] := by
  unfold enc8
  rcases enc_cases r with ⟨h, e⟩ | ⟨h1, h2, e⟩ | ⟨h, e⟩ | ⟨h1, h2, h3, e⟩ | ⟨h1, h2, e⟩
  · exact e
  all_goals omega
theorem scalarN (n b0 b1 b2 b3 : Nat) : scalar (Lib.decodeN n b0 b1 b2 b3).1 := by
  unfold Lib.decodeN
  repeat' split
  all_goals (simp only [scalar]; omega)
theorem scalar_of (l : List UInt8) : scalar (decodeL l).1 := by
  rw [Lib.decodeL_N]; exact scalarN _ _ _ _ _

set_option maxRecDepth 100000 in
/-- A text that is valid is its characters, written. -/
theorem chars_back (n : Nat) : ∀ (l : List UInt8), l.length ≤ n → validD l = true → (chars l).flatMap enc8 = l ∧ ∀ c ∈ chars l, scalar c := by
  induction n with
  | zero =>
    intro l h _
    have : l = [] := List.eq_nil_of_length_eq_zero (by omega)
    subst this; simp [chars_nil]
  | succ n ih =>
    intro l h hv
    by_cases hne : l = []
    · subst hne; simp [chars_nil]
    · have hp := decode_pos l
      have hl : 1 ≤ l.length := by cases l <;> simp_all
      rw [Lib.validD_step l hne] at hv
      split at hv
      · cases hv
      · rename_i hnv
        obtain ⟨h1, h2⟩ := ih (l.drop (decodeL l).2) (by simp; omega) hv
        rw [chars_step l hne]
        refine ⟨?_, ?_⟩
        · rw [List.flatMap_cons, h1]
          unfold enc8
          rw [encode_same, Lib.encode_decode l hne hnv, List.take_append_drop]
        · intro c hc
          rcases List.mem_cons.1 hc with rfl | hc
          · exact scalar_of l
          · exact h2 c hc
/-- A plain byte is a character. -/
theorem chars_ascii (c : UInt8) (l : List UInt8) (h : c.toNat < 128) : chars (c :: l) = c.toNat :: chars l := by
  rw [chars_step _ (by simp), Lib.decodeL_ascii c l h]; rfl
end Go.Proofs.YtdapnoocmpbijaaGreatDoor

/- Trees of names: how they are written, what is told of them. No program in sight. -/
namespace Go.Proofs.YtdapnoocmpbijaaGreatDoor

/-- A tree: kind, letter, name, number, flag, kids. -/
inductive RT where
  | mk (kd : Int) (c : UInt8) (nm : List UInt8) (n : Nat) (fl : Bool) (ks : List RT)
instance : Inhabited RT := ⟨.mk 0 0 [] 0 false []⟩
def RT.kd : RT → Int | .mk kd _ _ _ _ _ => kd
def RT.c : RT → UInt8 | .mk _ c _ _ _ _ => c
def RT.nm : RT → List UInt8 | .mk _ _ nm _ _ _ => nm
def RT.n : RT → Nat | .mk _ _ _ n _ _ => n
def RT.fl : RT → Bool | .mk _ _ _ _ fl _ => fl
def RT.ks : RT → List RT | .mk _ _ _ _ _ ks => ks

/-- What is put behind, and whether an empty name stands last then. -/
def pt (e : Bool) (l : List UInt8) : List UInt8 := if l = [] then [] else sepOf e l ++ l
def pe (e : Bool) (l : List UInt8) : Bool := if l = [] then e else false

/-- A binder, a lifetime, as they are written. -/
def binder (n : Nat) : List UInt8 := if n = 0 then [] else 71 :: b62 (n - 1)
def lifeCode (n : Nat) : List UInt8 := 76 :: b62 n

section
variable (idw : List UInt8 → List UInt8)
/-- A name behind others. -/
def nameText (e : Bool) (nm : List UInt8) : List UInt8 := if nm = [] then pt e [48] else pt e (idw nm)
/-- What is told of a function's ABI, as it is written. -/
def abiCode (nm : List UInt8) : List UInt8 := if nm = [] then [] else if nm = [67] then [75, 67] else 75 :: idw (nm.map fun c => if c = 45 then 95 else c)
def fnHead (nm : List UInt8) (fl : Bool) : List UInt8 := (if fl then [85] else []) ++ abiCode idw nm

mutual
def emp : RT → Bool
  | .mk kd _ nm _ _ ks => if kd = 5 then decide (nm = []) else if kd = 1 ∨ kd = 6 ∨ kd = 7 ∨ kd = 10 ∨ kd = 19 ∨ kd = 20 ∨ kd = 21 then false else empL ks
def empL : List RT → Bool
  | [] => false
  | k :: ks => match ks with
    | [] => emp k
    | _ :: _ => empL ks
end

/-- K stands in front of a constant that is an argument. -/
def argMark (kd : Int) : List UInt8 := if kd = 20 ∨ kd = 21 then [75] else []

mutual
def enc : RT → List UInt8
  | .mk kd c nm n fl ks =>
    if kd = 1 then 67 :: (dis n ++ nameText idw false nm)
    else if kd = 2 then 77 :: (dis n ++ encs ks)
    else if kd = 3 then 88 :: (dis n ++ encs ks)
    else if kd = 4 then 89 :: encs ks
    else if kd = 5 then 78 :: c :: (encs ks ++ (pt (empL ks) (dis n) ++ nameText idw (pe (empL ks) (dis n)) nm))
    else if kd = 6 then 73 :: (encsA ks ++ [69])
    else if kd = 7 then [c]
    else if kd = 8 then 65 :: encs ks
    else if kd = 9 then 83 :: encs ks
    else if kd = 10 then 84 :: (encs ks ++ [69])
    else if kd = 11 then 82 :: ((if n = 0 then [] else lifeCode n) ++ encs ks)
    else if kd = 12 then 81 :: ((if n = 0 then [] else lifeCode n) ++ encs ks)
    else if kd = 13 then 80 :: encs ks
    else if kd = 14 then 79 :: encs ks
    else if kd = 15 then 70 :: (binder n ++ (fnHead idw nm fl ++ encsE ks))
    else if kd = 16 then 68 :: (binder n ++ encsE ks)
    else if kd = 17 then encs ks
    else if kd = 18 then 112 :: (idw nm ++ encs ks)
    else if kd = 19 then lifeCode n
    else if kd = 20 then c :: (negCode fl ++ (h16 n ++ [95]))
    else [112]
def encs : List RT → List UInt8
  | [] => []
  | k :: ks => enc k ++ encs ks
def encsA : List RT → List UInt8
  | [] => []
  | k :: ks => argMark k.kd ++ (enc k ++ encsA ks)
/-- E stands ahead of the last one. -/
def encsE : List RT → List UInt8
  | [] => []
  | k :: ks => match ks with
    | [] => 69 :: enc k
    | _ :: _ => enc k ++ encsE ks
end

mutual
def size : RT → Nat
  | .mk _ _ _ _ _ ks => 1 + sizes ks
def sizes : List RT → Nat
  | [] => 0
  | k :: ks => size k + sizes ks
end

mutual
/-- Where the binders stand, and how many lifetimes are bound there. -/
def bnds (off lb : Nat) : RT → List (Nat × Nat)
  | .mk kd _ nm n fl ks =>
    if kd = 2 ∨ kd = 3 then bndsL (off + (1 + (dis n).length)) lb ks
    else if kd = 5 then bndsL (off + 2) lb ks
    else if kd = 6 then bndsA (off + 1) lb ks
    else if kd = 4 ∨ kd = 8 ∨ kd = 9 ∨ kd = 10 ∨ kd = 13 ∨ kd = 14 then bndsL (off + 1) lb ks
    else if kd = 11 ∨ kd = 12 then bndsL (off + (1 + (if n = 0 then [] else lifeCode n).length)) lb ks
    else if kd = 15 then (if n = 0 then [] else [(off + (1 + (binder n).length), lb + n)]) ++ bndsE (off + (1 + ((binder n).length + (fnHead idw nm fl).length))) (lb + n) ks
    else if kd = 16 then (if n = 0 then [] else [(off + (1 + (binder n).length), lb + n)]) ++ bndsE (off + (1 + (binder n).length)) (lb + n) ks
    else if kd = 17 then bndsL off lb ks
    else if kd = 18 then bndsL (off + (1 + (idw nm).length)) lb ks
    else []
def bndsL (off lb : Nat) : List RT → List (Nat × Nat)
  | [] => []
  | k :: ks => bnds off lb k ++ bndsL (off + (enc idw k).length) lb ks
def bndsA (off lb : Nat) : List RT → List (Nat × Nat)
  | [] => []
  | k :: ks => bnds (off + (argMark k.kd).length) lb k ++ bndsA (off + ((argMark k.kd).length + (enc idw k).length)) lb ks
def bndsE (off lb : Nat) : List RT → List (Nat × Nat)
  | [] => []
  | k :: ks => match ks with
    | [] => bnds (off + 1) lb k
    | _ :: _ => bnds off lb k ++ bndsE (off + (enc idw k).length) lb ks
end
end

/-- How a tree is told: as a path (behind :: or not), as a type, as an argument, ..; generics that begin (and do not end). -/
inductive Md where
  | p (sep : Bool)
  | t
  | s

def Md.sep : Md → Bool
  | .p b => b
  | _ => false

/-- The text of a basic type. -/
def basicText (c : Nat) : List UInt8 :=
  if c = 97 then [105, 56] else if c = 98 then [98, 111, 111, 108] else if c = 99 then [99, 104, 97, 114] else if c = 100 then [102, 54, 52] else if c = 101 then [115, 116, 114]
  else if c = 102 then [102, 51, 50] else if c = 104 then [117, 56] else if c = 105 then [105, 115, 105, 122, 101] else if c = 106 then [117, 115, 105, 122, 101] else if c = 108 then [105, 51, 50]
  else if c = 109 then [117, 51, 50] else if c = 110 then [105, 49, 50, 56] else if c = 111 then [117, 49, 50, 56] else if c = 112 then [95] else if c = 115 then [105, 49, 54] else if c = 116 then [117, 49, 54]
  else if c = 117 then [40, 41] else if c = 118 then [46, 46, 46] else if c = 120 then [105, 54, 52] else if c = 121 then [117, 54, 52] else if c = 122 then [33] else []

/-- The text of what is bound: for<'a, 'b> -/
def forNames (lb n : Nat) : List (List UInt8) := (List.range n).map fun i => lifeText (lb + i + 1) 1
def binderText (lb n : Nat) : List UInt8 := if n = 0 then [] else [102, 111, 114, 60] ++ (joined [44, 32] (forNames lb n) ++ [62, 32])
/-- The last part of a path. -/
def nestText (c : UInt8) (nm : List UInt8) (n : Nat) : List UInt8 :=
  if c = 67 ∨ c = 83 then [58, 58, 123] ++ ((if c = 67 then [99, 108, 111, 115, 117, 114, 101] else [115, 104, 105, 109]) ++ ((if nm = [] then [] else 58 :: nm) ++ ((35 :: Lib.decDigits n) ++ [125])))
  else [58, 58] ++ nm
def fnWords (nm : List UInt8) (fl : Bool) : List UInt8 :=
  (if fl then [117, 110, 115, 97, 102, 101, 32] else []) ++ (if nm = [] then [] else [101, 120, 116, 101, 114, 110, 32, 34] ++ (nm ++ [34, 32]))
/-- The kind of a constant, as the reader numbers it. -/
def constKind (c : Nat) : Nat := if c = 98 then 3 else if c = 99 then 4 else if c = 97 ∨ c = 115 ∨ c = 108 ∨ c = 120 ∨ c = 110 ∨ c = 105 then 1 else 2

mutual
def txt (m : Md) (lb : Nat) : RT → List UInt8
  | .mk kd c nm n fl ks =>
    if kd = 1 then nm
    else if kd = 2 then 60 :: (joined [32, 97, 115, 32] ((txtsT lb ks).drop 1) ++ [62])
    else if kd = 3 then 60 :: (joined [32, 97, 115, 32] ((txtsT lb ks).drop 1) ++ [62])
    else if kd = 4 then 60 :: (joined [32, 97, 115, 32] (txtsT lb ks) ++ [62])
    else if kd = 5 then (txts (.p m.sep) lb ks).flatten ++ nestText c nm n
    else if kd = 6 then ((txts (.p m.sep) lb ks).headD [] ++ ((if m.sep then [58, 58] else []) ++ (60 :: joined [44, 32] ((txtsT lb ks).drop 1)))) ++ (match m with | .s => [] | _ => [62])
    else if kd = 7 then basicText c.toNat
    else if kd = 8 then 91 :: (joined [59, 32] (txtsT lb ks) ++ [93])
    else if kd = 9 then 91 :: ((txtsT lb ks).flatten ++ [93])
    else if kd = 10 then 40 :: (joined [44, 32] (txtsT lb ks) ++ ((if ks.length = 1 then [44] else []) ++ [41]))
    else if kd = 11 then 38 :: ((if n = 0 then [] else lifeText lb n ++ [32]) ++ (txtsT lb ks).flatten)
    else if kd = 12 then 38 :: ((if n = 0 then [] else lifeText lb n ++ [32]) ++ ([109, 117, 116, 32] ++ (txtsT lb ks).flatten))
    else if kd = 13 then [42, 99, 111, 110, 115, 116, 32] ++ (txtsT lb ks).flatten
    else if kd = 14 then [42, 109, 117, 116, 32] ++ (txtsT lb ks).flatten
    else if kd = 15 then binderText lb n ++ (fnWords nm fl ++ ([102, 110, 40] ++ (joined [44, 32] ((txtsT (lb + n) ks).dropLast) ++ (41 :: (if (ks.getLastD default).kd = 7 ∧ (ks.getLastD default).c = 117 then [] else [32, 45, 62, 32] ++ (txtsT (lb + n) ks).getLastD [])))))
    else if kd = 16 then [100, 121, 110, 32] ++ (binderText lb n ++ (joined [32, 43, 32] ((txts .s (lb + n) ks).dropLast) ++ (if (ks.getLastD default).n = 0 then [] else [32, 43, 32] ++ (txtsT lb ks).getLastD [])))
    else if kd = 17 then (txts .s lb ks).headD [] ++ (if (ks.headD default).kd = 6 then tailText [44, 32] ((txtsT lb ks).drop 1) ++ [62] else if ks.length ≤ 1 then [] else 60 :: (joined [44, 32] ((txtsT lb ks).drop 1) ++ [62]))
    else if kd = 18 then nm ++ ([32, 61, 32] ++ (txtsT lb ks).flatten)
    else if kd = 19 then lifeText lb n
    else if kd = 20 then negText fl ++ constText (constKind c.toNat) n
    else [95]
def txts (m : Md) (lb : Nat) : List RT → List (List UInt8)
  | [] => []
  | k :: ks => txt m lb k :: txts m lb ks
def txtsT (lb : Nat) : List RT → List (List UInt8)
  | [] => []
  | k :: ks => txt .t lb k :: txtsT lb ks
end
end Go.Proofs.YtdapnoocmpbijaaGreatDoor

