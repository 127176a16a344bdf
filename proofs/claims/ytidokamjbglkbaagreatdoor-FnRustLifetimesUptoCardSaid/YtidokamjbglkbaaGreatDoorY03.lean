/- Punycode: what is written is read again. Plain lists and numbers. -/
import Derived.Test.YtidokamjbglkbaaGreatDoorY01
import Derived.Test.YtidokamjbglkbaaGreatDoorY02
import Derived.Lib.MapLaws
import Derived.Lib.ValidLaws
namespace Go.Proofs.YtidokamjbglkbaaGreatDoor

/-- The threshold of a digit at a place (from 1 on). -/
def thr (place bias : Nat) : Nat := min (max (36 * place - bias) 1) 26
theorem thr_ge (p b : Nat) : 1 ≤ thr p b := by unfold thr; omega
theorem thr_le (p b : Nat) : thr p b ≤ 26 := by unfold thr; omega
theorem thr_mono (p b : Nat) : thr p b ≤ thr (p + 1) b := by unfold thr; omega

def adaptK (d k : Nat) : Nat := if 455 < d then adaptK (d / 35) (k + 36) else k + 36 * d / (d + 38)
termination_by d
decreasing_by omega
/-- The bias behind a delta. -/
def adaptD (delta many : Nat) (first : Bool) : Nat := (if first then delta / 700 else delta / 2) + (if first then delta / 700 else delta / 2) / many
def adapt (delta many : Nat) (first : Bool) : Nat := adaptK (adaptD delta many first) 0
theorem adaptK_le : ∀ (d k : Nat), d ≤ 455 * 35 ^ 8 → adaptK d k ≤ k + 36 * 8 + 36 := by
  have key : ∀ (m d k : Nat), d ≤ 455 * 35 ^ m → adaptK d k ≤ k + 36 * m + 36 := by
    intro m
    induction m with
    | zero =>
      intro d k h
      rw [adaptK, if_neg (by simp at h; omega)]
      have : 36 * d / (d + 38) ≤ 36 := Nat.div_le_of_le_mul (by rw [Nat.mul_comm]; exact Nat.mul_le_mul (by omega) (Nat.le_refl _))
      omega
    | succ m ih =>
      intro d k h
      rw [adaptK]
      split
      · have h2 : d / 35 ≤ 455 * 35 ^ m := by
          refine Nat.div_le_of_le_mul ?_
          rw [Nat.pow_succ] at h
          rw [← Nat.mul_assoc] at h
          omega
        have := ih (d / 35) (k + 36) h2
        omega
      · have : 36 * d / (d + 38) ≤ 36 := Nat.div_le_of_le_mul (by rw [Nat.mul_comm]; exact Nat.mul_le_mul (by omega) (Nat.le_refl _))
        omega
  exact fun d k h => key 8 d k h
theorem adapt_le (delta many : Nat) (first : Bool) (h : delta ≤ 68000000) (_ : 1 ≤ many) : adapt delta many first ≤ 400 := by
  have : adaptD delta many first ≤ 455 * 35 ^ 8 := by
    unfold adaptD
    have h1 : (if first then delta / 700 else delta / 2) ≤ 68000000 := by split <;> omega
    have h2 : (if first then delta / 700 else delta / 2) / many ≤ 68000000 := Nat.le_trans (Nat.div_le_self _ _) h1
    have : (136000000 : Nat) ≤ 455 * 35 ^ 8 := by decide
    omega
  have := adaptK_le _ 0 this
  unfold adapt; omega

/-- The byte of a digit. -/
def letter (d : Nat) : UInt8 := UInt8.ofNat (if d < 26 then 97 + d else 48 + (d - 26))
theorem letter_nat (d : Nat) (h : d < 36) : (letter d).toNat = if d < 26 then 97 + d else 48 + (d - 26) := by
  unfold letter
  rw [UInt8.toNat_ofNat_of_lt']
  show _ < 256
  split <;> omega
/-- The digits of a delta, from a place on. -/
def digitsOf (bias delta place : Nat) : List Nat :=
  if h : delta < thr place bias then [delta]
  else (thr place bias + (delta - thr place bias) % (36 - thr place bias)) :: digitsOf bias ((delta - thr place bias) / (36 - thr place bias)) (place + 1)
termination_by delta
decreasing_by
  have := thr_ge place bias
  have := thr_le place bias
  exact Nat.lt_of_le_of_lt (Nat.div_le_self _ _) (by omega)
theorem digitsOf_lt (bias : Nat) : ∀ (delta place : Nat), ∀ d ∈ digitsOf bias delta place, d < 36 := by
  intro delta
  induction delta using Nat.strongRecOn with
  | _ delta ih =>
    intro place d hd
    have h1 := thr_ge place bias
    have h2 := thr_le place bias
    rw [digitsOf] at hd
    split at hd
    · simp at hd; omega
    · rcases List.mem_cons.1 hd with rfl | hd
      · have := Nat.mod_lt (delta - thr place bias) (show 36 - thr place bias > 0 by omega)
        omega
      · exact ih _ (Nat.lt_of_le_of_lt (Nat.div_le_self _ _) (by omega)) _ d hd
theorem digitsOf_len (bias : Nat) : ∀ (m delta place : Nat), delta < 10 ^ m → (digitsOf bias delta place).length ≤ m + 1 := by
  intro m
  induction m with
  | zero =>
    intro delta place h
    have h1 := thr_ge place bias
    rw [digitsOf, dif_pos (by simp at h; omega)]; simp
  | succ m ih =>
    intro delta place h
    have h1 := thr_ge place bias
    have h2 := thr_le place bias
    rw [digitsOf]
    split
    · simp
    · have : (delta - thr place bias) / (36 - thr place bias) < 10 ^ m := by
        rw [Nat.div_lt_iff_lt_mul (by omega)]
        have : 10 ^ m * 10 ≤ 10 ^ m * (36 - thr place bias) := Nat.mul_le_mul (Nat.le_refl _) (by omega)
        rw [Nat.pow_succ] at h
        omega
      have := ih _ (place + 1) this
      simp only [List.length_cons]; omega
/-- A delta, written. -/
def wdelta (bias delta : Nat) : List UInt8 := (digitsOf bias delta 1).map letter

/-- The weight of a digit that is not the last one stays small. -/
theorem weight_ok {w place bias d : Nat} (h1 : w * d ≤ 68000000) (h2 : thr place bias ≤ d) (h3 : thr place bias = 1 → w = 35 ^ (place - 1)) : w < 59652323 := by
  have ht := thr_ge place bias
  by_cases h : 2 ≤ thr place bias
  · have : w * 2 ≤ w * d := Nat.mul_le_mul (Nat.le_refl _) (by omega)
    omega
  · have hw := h3 (by omega)
    have hd : w * 1 ≤ w * d := Nat.mul_le_mul (Nat.le_refl _) (by omega)
    by_cases h6 : place - 1 ≤ 5
    · have : 35 ^ (place - 1) ≤ 35 ^ 5 := Nat.pow_le_pow_right (by decide) h6
      have e : (35 ^ 5 : Nat) = 52521875 := by decide
      omega
    · have : 35 ^ 6 ≤ 35 ^ (place - 1) := Nat.pow_le_pow_right (by decide) (by omega)
      have e : (35 ^ 6 : Nat) = 1838265625 := by decide
      omega

/-- A character laid at a place. -/
def insAt (l : List Nat) (r x : Nat) : List Nat := l.take r ++ x :: l.drop r
theorem insAt_len (l : List Nat) (r x : Nat) (h : r ≤ l.length) : (insAt l r x).length = l.length + 1 := by simp [insAt]; omega
/-- A character that Punycode may tell. -/
def scalar (n : Nat) : Prop := n < 55296 ∨ (57343 < n ∧ n ≤ 1114111)

/-- What the rest of the digits tells, from a state on: characters are laid into a list. -/
inductive Pun : Nat → Nat → Nat → List Nat → List UInt8 → List Nat → Prop
  | done (i n bias : Nat) (out : List Nat) : Pun i n bias out [] out
  | step (i n bias delta q r : Nat) (out rest fin) (hd : delta ≤ 68000000) (hq : i + delta = q * (out.length + 1) + r) (hr : r ≤ out.length) (hs : scalar (n + q)) (hb : bias ≤ 400)
      (h : Pun (r + 1) (n + q) (adapt delta (out.length + 1) (decide (i = 0))) (insAt out r (n + q)) rest fin) : Pun i n bias out (wdelta bias delta ++ rest) fin

/-- Of a list: what stands in the reader's list when the writer has come to place p in the round of the character now. -/
def sofar (L : List Nat) (now p : Nat) : List Nat := (L.take p).filter (fun x => decide (x ≤ now)) ++ (L.drop p).filter (fun x => decide (x < now))
def cntAt (L : List Nat) (now p : Nat) : Nat := ((L.take p).filter fun x => decide (x ≤ now)).length

/-- What holds of the writer (e: the digits so far) beside the reader. -/
structure PInv (L basic : List Nat) (now p delta bias many : Nat) (first : Bool) (e : List UInt8) : Prop where
  ex : ∃ i n, (∀ rest fin, Pun i n bias (sofar L now p) rest fin → Pun 0 128 72 basic (e ++ rest) fin) ∧ delta + i + n * (many + 1) = now * (many + 1) + cntAt L now p ∧ (first = decide (i = 0))
  hmany : many = (sofar L now p).length
  hbias : bias ≤ 400
  hlen : e.length ≤ 9 * many
  hbyte : ∀ c ∈ e, ∃ d, d < 36 ∧ c = letter d

theorem cnt_le (L : List Nat) (now p : Nat) : cntAt L now p ≤ (sofar L now p).length := by simp [cntAt, sofar]
theorem sofar_zero (L : List Nat) (now : Nat) : sofar L now 0 = L.filter fun x => decide (x < now) := by simp [sofar]
theorem cnt_zero (L : List Nat) (now : Nat) : cntAt L now 0 = 0 := by simp [cntAt]
theorem filter_len_le (L : List Nat) (f : Nat → Bool) : (L.filter f).length ≤ L.length := List.length_filter_le _ _
theorem sofar_len (L : List Nat) (now p : Nat) : (sofar L now p).length ≤ L.length := by
  unfold sofar
  rw [List.length_append]
  have h1 := List.length_filter_le (fun x => decide (x ≤ now)) (L.take p)
  have h2 := List.length_filter_le (fun x => decide (x < now)) (L.drop p)
  simp at h1 h2 ⊢; omega

section
variable {L basic : List Nat} {now p delta bias many : Nat} {first : Bool} {e : List UInt8}
theorem PInv.start (hb : basic = L.filter fun x => decide (x < 128)) : PInv L basic 128 0 0 72 basic.length true [] := by
  refine ⟨⟨0, 128, ?_, ?_, rfl⟩, ?_, by omega, by simp, by simp⟩
  · intro rest fin h
    rw [sofar_zero, ← hb] at h
    exact h
  · rw [cnt_zero]; omega
  · rw [sofar_zero, ← hb]
/-- On to the next character. -/
theorem PInv.next (h : PInv L basic now 0 delta bias many first e) (nx : Nat) (hnx : now ≤ nx) (hno : ∀ x ∈ L, x < nx → x < now) : PInv L basic nx 0 (delta + (nx - now) * (many + 1)) bias many first e := by
  have hs : sofar L nx 0 = sofar L now 0 := by
    rw [sofar_zero, sofar_zero]
    refine List.filter_congr fun x hx => ?_
    have := hno x hx
    simp; omega
  obtain ⟨⟨i, n, h1, h2, h3⟩, h4, h5, h6, h7⟩ := h
  refine ⟨⟨i, n, by rw [hs]; exact h1, ?_, h3⟩, by rw [hs]; exact h4, h5, h6, h7⟩
  rw [cnt_zero] at h2 ⊢
  have : nx * (many + 1) = now * (many + 1) + (nx - now) * (many + 1) := by rw [← Nat.add_mul]; congr 1; omega
  omega
theorem take_next (L : List Nat) (p : Nat) (hp : p < L.length) : L.take (p + 1) = L.take p ++ [L[p]] := by
  rw [List.take_add_one, List.getElem?_eq_getElem hp]; rfl
/-- A lesser character. -/
theorem PInv.less (h : PInv L basic now p delta bias many first e) (hp : p < L.length) (hlt : L[p] < now) : PInv L basic now (p + 1) (delta + 1) bias many first e := by
  have hs : sofar L now (p + 1) = sofar L now p := by
    have h1 : decide (L[p] ≤ now) = true := by simp; omega
    have h2 : decide (L[p] < now) = true := by simpa using hlt
    have e2 : (L.drop p).filter (fun x => decide (x < now)) = L[p] :: (L.drop (p + 1)).filter (fun x => decide (x < now)) := by rw [List.drop_eq_getElem_cons hp, List.filter_cons, if_pos h2]
    have e1 : [L[p]].filter (fun x => decide (x ≤ now)) = [L[p]] := by rw [List.filter_cons, if_pos h1]; rfl
    unfold sofar
    rw [take_next L p hp, List.filter_append, e1, e2, List.append_assoc]; rfl
  have hc : cntAt L now (p + 1) = cntAt L now p + 1 := by
    unfold cntAt
    rw [take_next L p hp, List.filter_append]
    have h1 : decide (L[p] ≤ now) = true := by simp; omega
    simp [h1]
  obtain ⟨⟨i, n, h1, h2, h3⟩, h4, h5, h6, h7⟩ := h
  exact ⟨⟨i, n, by rw [hs]; exact h1, by rw [hc]; omega, h3⟩, by rw [hs]; exact h4, h5, h6, h7⟩
/-- A greater one. -/
theorem PInv.more (h : PInv L basic now p delta bias many first e) (hp : p < L.length) (hgt : now < L[p]) : PInv L basic now (p + 1) delta bias many first e := by
  have h1 : decide (L[p] ≤ now) = false := by simp; omega
  have h2 : decide (L[p] < now) = false := by simp; omega
  have hs : sofar L now (p + 1) = sofar L now p := by
    have e2 : (L.drop p).filter (fun x => decide (x < now)) = (L.drop (p + 1)).filter (fun x => decide (x < now)) := by rw [List.drop_eq_getElem_cons hp, List.filter_cons, h2]; rfl
    have e1 : [L[p]].filter (fun x => decide (x ≤ now)) = [] := by rw [List.filter_cons, h1]; rfl
    unfold sofar
    rw [take_next L p hp, List.filter_append, e1, e2, List.append_nil]
  have hc : cntAt L now (p + 1) = cntAt L now p := by
    unfold cntAt
    rw [take_next L p hp, List.filter_append]
    simp [h1]
  obtain ⟨⟨i, n, h3, h4, h5⟩, h6, h7, h8, h9⟩ := h
  exact ⟨⟨i, n, by rw [hs]; exact h3, by rw [hc]; omega, h5⟩, by rw [hs]; exact h6, h7, h8, h9⟩
/-- How great a delta is. -/
theorem PInv.delta_le (h : PInv L basic now p delta bias many first e) (hn : now ≤ 1114111) (hL : L.length ≤ 60) : delta ≤ 1114111 * 61 + 60 := by
  obtain ⟨⟨i, n, _, h2, _⟩, h4, _⟩ := h
  have hc := cnt_le L now p
  have hl := sofar_len L now p
  have : now * (many + 1) ≤ 1114111 * 61 := Nat.mul_le_mul hn (by omega)
  omega
theorem wdelta_len (bias delta : Nat) (h : delta ≤ 68000000) : (wdelta bias delta).length ≤ 9 := by
  unfold wdelta
  rw [List.length_map]
  exact digitsOf_len bias 8 delta 1 (by omega)
theorem wdelta_byte (bias delta : Nat) : ∀ c ∈ wdelta bias delta, ∃ d, d < 36 ∧ c = letter d := by
  intro c hc
  obtain ⟨d, hd, rfl⟩ := List.mem_map.1 hc
  exact ⟨d, digitsOf_lt bias delta 1 d hd, rfl⟩
/-- The character itself: its delta is written. -/
theorem PInv.same (h : PInv L basic now p delta bias many first e) (hp : p < L.length) (he : L[p] = now) (hs : scalar now) (hd : delta ≤ 68000000) :
    PInv L basic now (p + 1) 0 (adapt delta (many + 1) first) (many + 1) false (e ++ wdelta bias delta) := by
  have h1 : decide (L[p] ≤ now) = true := by simp; omega
  have h2 : decide (L[p] < now) = false := by simp; omega
  have hso : sofar L now p = (L.take p).filter (fun x => decide (x ≤ now)) ++ (L.drop (p + 1)).filter (fun x => decide (x < now)) := by
    unfold sofar
    rw [List.drop_eq_getElem_cons hp, List.filter_cons, h2]; rfl
  have hsn : sofar L now (p + 1) = (L.take p).filter (fun x => decide (x ≤ now)) ++ now :: (L.drop (p + 1)).filter (fun x => decide (x < now)) := by
    unfold sofar
    rw [take_next L p hp, List.filter_append, List.append_assoc]
    have e1 : [L[p]].filter (fun x => decide (x ≤ now)) = [now] := by rw [List.filter_cons, if_pos h1, he]; rfl
    rw [e1]; rfl
  have hc : cntAt L now (p + 1) = cntAt L now p + 1 := by
    unfold cntAt
    rw [take_next L p hp, List.filter_append]
    simp [h1]
  have hin : insAt (sofar L now p) (cntAt L now p) now = sofar L now (p + 1) := by
    rw [hso, hsn]
    unfold insAt cntAt
    rw [List.take_left, List.drop_left]
  have hcl := cnt_le L now p
  obtain ⟨⟨i, n, h3, h4, h5⟩, h6, h7, h8, h9⟩ := h
  have hn : n ≤ now := by
    rcases Nat.lt_or_ge now n with hlt | hge
    · have : (now + 1) * (many + 1) ≤ n * (many + 1) := Nat.mul_le_mul hlt (Nat.le_refl _)
      rw [Nat.add_mul] at this
      omega
    · exact hge
  have hq : i + delta = (now - n) * ((sofar L now p).length + 1) + cntAt L now p := by
    rw [← h6]
    have : now * (many + 1) = (now - n) * (many + 1) + n * (many + 1) := by rw [← Nat.add_mul]; congr 1; omega
    omega
  have hnn : n + (now - n) = now := by omega
  refine ⟨⟨cntAt L now p + 1, now, ?_, ?_, by simp⟩, ?_, adapt_le _ _ _ hd (by omega), ?_, ?_⟩
  · intro rest fin hP
    rw [List.append_assoc]
    refine h3 _ _ (.step i n bias delta (now - n) (cntAt L now p) _ rest fin hd hq hcl (by rw [hnn]; exact hs) h7 ?_)
    rw [hnn, hin, ← h6, ← h5]
    exact hP
  · rw [hc]; omega
  · rw [hsn, List.length_append, List.length_cons, h6, hso, List.length_append]; omega
  · have := wdelta_len bias delta hd
    rw [List.length_append]; omega
  · intro c hc
    rcases List.mem_append.1 hc with hc | hc
    · exact h9 c hc
    · exact wdelta_byte bias delta c hc
/-- The round's end. -/
theorem PInv.over (h : PInv L basic now p delta bias many first e) (hp : p = L.length) : PInv L basic (now + 1) 0 (delta + 1) bias many first e := by
  subst hp
  have hs : sofar L (now + 1) 0 = sofar L now L.length := by
    rw [sofar_zero]
    unfold sofar
    simp only [List.take_length, List.drop_length, List.filter_nil, List.append_nil]
    refine List.filter_congr fun x _ => ?_
    simp; omega
  have hc : cntAt L now L.length = (sofar L now L.length).length := by
    unfold sofar cntAt
    simp
  obtain ⟨⟨i, n, h3, h4, h5⟩, h6, h7, h8, h9⟩ := h
  refine ⟨⟨i, n, by rw [hs]; exact h3, ?_, h5⟩, by rw [hs]; exact h6, h7, h8, h9⟩
  rw [cnt_zero]
  rw [hc, ← h6] at h4
  rw [Nat.add_mul]; omega
/-- All have been written. -/
theorem PInv.fin (h : PInv L basic now 0 delta bias many first e) (hall : ∀ x ∈ L, x < now) : Pun 0 128 72 basic e L := by
  have hs : sofar L now 0 = L := by
    rw [sofar_zero]
    exact List.filter_eq_self.2 fun x hx => by simpa using hall x hx
  obtain ⟨⟨i, n, h3, _, _⟩, _⟩ := h
  have := h3 [] L (by rw [hs]; exact .done _ _ _ _)
  simpa using this
end

/-- The writer's state. -/
structure PS where
  delta : Nat
  bias : Nat
  many : Nat
  first : Bool
  text : List UInt8
/-- One character in the round of the character now. -/
def pstep (now : Nat) (s : PS) (c : Nat) : PS :=
  if c < now then { s with delta := s.delta + 1 }
  else if c = now then ⟨0, adapt s.delta (s.many + 1) s.first, s.many + 1, false, s.text ++ wdelta s.bias s.delta⟩ else s
def pround (now : Nat) (l : List Nat) (s : PS) : PS := l.foldl (pstep now) s
def PS.go (s : PS) (now nx : Nat) : PS := { s with delta := s.delta + (nx - now) * (s.many + 1) }
def PS.up (s : PS) : PS := { s with delta := s.delta + 1 }
/-- The least character that is at least some number. -/
def nextF (least : Nat) (nx : Option Nat) (c : Nat) : Option Nat := if least ≤ c ∧ (nx.all fun y => decide (c < y)) = true then some c else nx
def nextOf (L : List Nat) (least : Nat) : Option Nat := L.foldl (nextF least) none
def pouter (L : List Nat) : Nat → Nat → PS → PS
  | 0, _, s => s
  | f + 1, now, s => match nextOf L now with
    | none => s
    | some nx => pouter L f (nx + 1) (pround nx L (s.go now nx)).up
/-- The plain characters' bytes. -/
def basicOf (L : List Nat) : List Nat := L.filter fun x => decide (x < 128)
def bytesOf (L : List Nat) : List UInt8 := L.map UInt8.ofNat
def pstart (L : List Nat) : PS := ⟨0, 72, (basicOf L).length, true, bytesOf (basicOf L) ++ (if (basicOf L).length = 0 then [] else [95])⟩
/-- The Punycode of characters. -/
def punyOf (L : List Nat) : List UInt8 := (pouter L (L.length + 1) 128 (pstart L)).text

theorem nextF_some {least : Nat} {l : List Nat} : ∀ {nx : Option Nat} {y : Nat}, l.foldl (nextF least) nx = some y →
    (nx = some y ∨ (y ∈ l ∧ least ≤ y)) ∧ (∀ x ∈ l, least ≤ x → y ≤ x) ∧ (∀ z, nx = some z → y ≤ z) := by
  induction l with
  | nil => intro nx y h; simp at h; subst h; exact ⟨.inl rfl, by simp, fun z hz => by cases hz; exact Nat.le_refl _⟩
  | cons c l ih =>
    intro nx y h
    simp only [List.foldl_cons] at h
    obtain ⟨h1, h2, h3⟩ := ih h
    unfold nextF at h1 h3
    split at h1
    · rename_i hc
      rw [if_pos hc] at h3
      have hy := h3 c rfl
      refine ⟨?_, ?_, ?_⟩
      · rcases h1 with h1 | ⟨h1, h1'⟩
        · cases h1; exact .inr ⟨by simp, hc.1⟩
        · exact .inr ⟨by simp [h1], h1'⟩
      · intro x hx hl
        rcases List.mem_cons.1 hx with rfl | hx
        · exact hy
        · exact h2 x hx hl
      · intro z hz
        subst hz
        have := hc.2
        simp at this; omega
    · rename_i hc
      rw [if_neg hc] at h3
      refine ⟨?_, ?_, h3⟩
      · rcases h1 with h1 | ⟨h1, h1'⟩
        · exact .inl h1
        · exact .inr ⟨by simp [h1], h1'⟩
      · intro x hx hl
        rcases List.mem_cons.1 hx with rfl | hx
        · cases nx with
          | none => exact absurd ⟨hl, rfl⟩ hc
          | some z =>
            have := h3 z rfl
            rcases Nat.lt_or_ge x z with hlt | hge
            · exact absurd ⟨hl, by simpa using hlt⟩ hc
            · omega
        · exact h2 x hx hl
theorem nextF_none {least : Nat} {l : List Nat} : ∀ {nx : Option Nat}, l.foldl (nextF least) nx = none → nx = none ∧ ∀ x ∈ l, x < least := by
  induction l with
  | nil => intro nx h; exact ⟨by simpa using h, by simp⟩
  | cons c l ih =>
    intro nx h
    simp only [List.foldl_cons] at h
    obtain ⟨h1, h2⟩ := ih h
    unfold nextF at h1
    split at h1
    · cases h1
    · rename_i hc
      subst h1
      refine ⟨rfl, ?_⟩
      intro x hx
      rcases List.mem_cons.1 hx with rfl | hx
      · rcases Nat.lt_or_ge x least with hlt | hge
        · exact hlt
        · exact absurd ⟨hge, rfl⟩ hc
      · exact h2 x hx

/-- The invariant over a state whose text begins with base. -/
def SInv (L : List Nat) (base : List UInt8) (now p : Nat) (s : PS) : Prop := ∃ e, s.text = base ++ e ∧ PInv L (basicOf L) now p s.delta s.bias s.many s.first e

theorem SInv.round {L : List Nat} {base : List UInt8} {now : Nat} (hn : now ≤ 1114111) (hL : L.length ≤ 60) (hs : scalar now) : ∀ (m p : Nat) (s : PS), L.length - p = m → p ≤ L.length → SInv L base now p s → SInv L base now L.length (pround now (L.drop p) s) := by
  intro m
  induction m with
  | zero =>
    intro p s hm hp h
    obtain rfl : p = L.length := by omega
    rw [List.drop_length]; exact h
  | succ m ih =>
    intro p s hm hp h
    have hp' : p < L.length := by omega
    rw [List.drop_eq_getElem_cons hp']
    show SInv L base now L.length (pround now (L.drop (p + 1)) (pstep now s L[p]))
    refine ih (p + 1) _ (by omega) (by omega) ?_
    obtain ⟨e, he, hI⟩ := h
    unfold pstep
    split
    · rename_i hlt; exact ⟨e, he, hI.less hp' hlt⟩
    · split
      · rename_i heq
        have hd := hI.delta_le hn hL
        exact ⟨e ++ wdelta s.bias s.delta, by rw [he, List.append_assoc], hI.same hp' heq hs (by omega)⟩
      · exact ⟨e, he, hI.more hp' (by omega)⟩

def above (L : List Nat) (now : Nat) : Nat := (L.filter fun x => decide (now ≤ x)).length
theorem above_lt {L : List Nat} {now y : Nat} (hy : y ∈ L) (h : now ≤ y) : above L (y + 1) < above L now := by
  unfold above
  have : ∀ l : List Nat, (l.filter fun x => decide (y + 1 ≤ x)).length ≤ (l.filter fun x => decide (now ≤ x)).length := by
    intro l
    induction l with
    | nil => simp
    | cons c l ih =>
      simp only [List.filter_cons]
      by_cases h1 : y + 1 ≤ c
      · rw [if_pos (by simpa using h1), if_pos (by simp; omega)]; simpa using ih
      · rw [if_neg (by simpa using h1)]
        split
        · simp; omega
        · exact ih
  induction L with
  | nil => cases hy
  | cons c l ih =>
    simp only [List.filter_cons]
    rcases List.mem_cons.1 hy with rfl | hy
    · rw [if_neg (by simp), if_pos (by simpa using h)]
      have := this l
      simp; omega
    · have := ih hy
      by_cases h1 : y + 1 ≤ c
      · rw [if_pos (by simpa using h1), if_pos (by simp; omega)]; simp; omega
      · rw [if_neg (by simpa using h1)]
        split
        · simp; omega
        · exact this

theorem SInv.outer {L : List Nat} {base : List UInt8} (hL : L.length ≤ 60) (hsc : ∀ x ∈ L, scalar x) : ∀ (f now : Nat) (s : PS), above L now < f → SInv L base now 0 s →
    ∃ e, (pouter L f now s).text = base ++ e ∧ Pun 0 128 72 (basicOf L) e L ∧ e.length ≤ 9 * L.length ∧ ∀ c ∈ e, ∃ d, d < 36 ∧ c = letter d := by
  intro f
  induction f with
  | zero => intro now s h; omega
  | succ f ih =>
    intro now s hf h
    unfold pouter
    cases hnx : nextOf L now with
    | none =>
      obtain ⟨e, he, hI⟩ := h
      have hall := (nextF_none hnx).2
      have hm := hI.hmany
      have hl := sofar_len L now 0
      exact ⟨e, he, hI.fin hall, Nat.le_trans hI.hlen (by omega), hI.hbyte⟩
    | some nx =>
      obtain ⟨h1, h2, _⟩ := nextF_some hnx
      have hmem : nx ∈ L ∧ now ≤ nx := by
        rcases h1 with h1 | h1
        · cases h1
        · exact h1
      have hno : ∀ x ∈ L, x < nx → x < now := by
        intro x hx hlt
        rcases Nat.lt_or_ge x now with h | h
        · exact h
        · have := h2 x hx h; omega
      have hs := hsc nx hmem.1
      have hn : nx ≤ 1114111 := by unfold scalar at hs; omega
      obtain ⟨e, he, hI⟩ := h
      have h3 : SInv L base nx 0 (s.go now nx) := ⟨e, he, hI.next nx hmem.2 hno⟩
      have h4 := SInv.round hn hL hs L.length 0 _ (by omega) (Nat.zero_le _) h3
      rw [List.drop_zero] at h4
      obtain ⟨e2, he2, hI2⟩ := h4
      exact ih (nx + 1) _ (by have := above_lt hmem.1 hmem.2; omega) ⟨e2, he2, hI2.over rfl⟩

/-- What is written of characters is read as them. -/
theorem puny_read (L : List Nat) (hL : L.length ≤ 60) (hsc : ∀ x ∈ L, scalar x) : ∃ e, punyOf L = (bytesOf (basicOf L) ++ (if (basicOf L).length = 0 then [] else [95])) ++ e ∧ Pun 0 128 72 (basicOf L) e L ∧ e.length ≤ 9 * L.length ∧
    ∀ c ∈ e, ∃ d, d < 36 ∧ c = letter d := by
  have h0 : SInv L (bytesOf (basicOf L) ++ (if (basicOf L).length = 0 then [] else [95])) 128 0 (pstart L) := ⟨[], by simp [pstart], PInv.start rfl⟩
  exact SInv.outer hL hsc (L.length + 1) 128 _ (by unfold above; have := List.length_filter_le (fun x => decide (128 ≤ x)) L; omega) h0
end Go.Proofs.YtidokamjbglkbaaGreatDoor

/- Characters of a text in UTF-8. Plain lists. -/
namespace Go.Proofs.YtidokamjbglkbaaGreatDoor
open Go.Lib (decodeL validD)

/-- A character's bytes. -/
def enc8 (c : Nat) : List UInt8 := (Utf8.encode (c : Int)).data.toList
def charsF : Nat → List UInt8 → List Nat
  | 0, _ => []
  | f + 1, l => if l = [] then [] else (decodeL l).1 :: charsF f (l.drop (decodeL l).2)
def chars (l : List UInt8) : List Nat := charsF l.length l

theorem decode_pos (l : List UInt8) : 1 ≤ (decodeL l).2 := by
  rw [Lib.decodeL_N]
  unfold Lib.decodeN
  repeat' split
  all_goals simp
theorem charsF_fuel : ∀ (n m : Nat) (l : List UInt8), l.length ≤ n → l.length ≤ m → charsF n l = charsF m l
  | 0, 0, _, _, _ => rfl
  | 0, m + 1, l, h, _ => by
    have : l = [] := List.eq_nil_of_length_eq_zero (by omega)
    subst this; simp [charsF]
  | n + 1, 0, l, _, h => by
    have : l = [] := List.eq_nil_of_length_eq_zero (by omega)
    subst this; simp [charsF]
  | n + 1, m + 1, l, h1, h2 => by
    simp only [charsF]
    split
    · rfl
    · rename_i hne
      have hp := decode_pos l
      have hl : 1 ≤ l.length := by cases l <;> simp_all
      rw [charsF_fuel n m _ (by simp; omega) (by simp; omega)]
theorem chars_nil : chars [] = [] := rfl
theorem chars_step (l : List UInt8) (hne : l ≠ []) : chars l = (decodeL l).1 :: chars (l.drop (decodeL l).2) := by
  have hl : 1 ≤ l.length := by cases l <;> simp_all
  obtain ⟨n, hn⟩ : ∃ n, l.length = n + 1 := ⟨l.length - 1, by omega⟩
  have hp := decode_pos l
  unfold chars
  rw [hn]
  simp only [charsF, hne, if_false]
  rw [charsF_fuel n _ _ (by simp; omega) (Nat.le_refl _)]
theorem chars_len : ∀ (n : Nat) (l : List UInt8), l.length ≤ n → (chars l).length ≤ l.length
  | 0, l, h => by
    have : l = [] := List.eq_nil_of_length_eq_zero (by omega)
    subst this; simp [chars_nil]
  | n + 1, l, h => by
    by_cases hne : l = []
    · subst hne; simp [chars_nil]
    · have hp := decode_pos l
      have hl : 1 ≤ l.length := by cases l <;> simp_all
      have := chars_len n (l.drop (decodeL l).2) (by simp; omega)
      rw [chars_step l hne, List.length_cons]
      simp at this; omega

theorem enc_cases (r : Nat) : (r < 128 ∧ (Utf8.encode (r : Int)).data.toList = [UInt8.ofNat r]) ∨ (128 ≤ r ∧ r < 2048 ∧ (Utf8.encode (r : Int)).data.toList = [UInt8.ofNat (192 + r / 64), UInt8.ofNat (128 + r % 64)]) ∨
    (((55296 ≤ r ∧ r ≤ 57343) ∨ 1114111 < r) ∧ (Utf8.encode (r : Int)).data.toList = [239, 191, 189]) ∨
    (2048 ≤ r ∧ r < 65536 ∧ ¬ (55296 ≤ r ∧ r ≤ 57343) ∧ (Utf8.encode (r : Int)).data.toList = [UInt8.ofNat (224 + r / 4096), UInt8.ofNat (128 + r / 64 % 64), UInt8.ofNat (128 + r % 64)]) ∨
    (65536 ≤ r ∧ r ≤ 1114111 ∧ (Utf8.encode (r : Int)).data.toList = [UInt8.ofNat (240 + r / 262144), UInt8.ofNat (128 + r / 4096 % 64), UInt8.ofNat (128 + r / 64 % 64), UInt8.ofNat (128 + r % 64)]) := by
  by_cases c1 : r < 128
  · have v : Utf8.valid (r : Int) = true := by simp [Utf8.valid]; omega
    exact .inl ⟨c1, by simp [Utf8.encode, v, c1]⟩
  by_cases c2 : r < 2048
  · have v : Utf8.valid (r : Int) = true := by simp [Utf8.valid]; omega
    exact .inr (.inl ⟨by omega, c2, by simp [Utf8.encode, v, c1, c2]⟩)
  by_cases hb : (55296 ≤ r ∧ r ≤ 57343) ∨ 1114111 < r
  · have v : Utf8.valid (r : Int) = false := by simp [Utf8.valid]; omega
    exact .inr (.inr (.inl ⟨hb, by simp [Utf8.encode, v, Utf8.runeError]⟩))
  by_cases c3 : r < 65536
  · have v : Utf8.valid (r : Int) = true := by simp [Utf8.valid]; omega
    exact .inr (.inr (.inr (.inl ⟨by omega, c3, by omega, by simp [Utf8.encode, v, c1, c2, c3]⟩)))
  · have v : Utf8.valid (r : Int) = true := by simp [Utf8.valid]; omega
    exact .inr (.inr (.inr (.inr ⟨by omega, by omega, by simp [Utf8.encode, v, c1, c2, c3]⟩)))
theorem encode_same (r : Nat) : (Utf8.encode (r : Int)).data.toList = Lib.encodeRune (r : Int) := by
  unfold Lib.encodeRune
  rcases enc_cases r with ⟨h, e⟩ | ⟨h1, h2, e⟩ | ⟨h, e⟩ | ⟨h1, h2, h3, e⟩ | ⟨h1, h2, e⟩
  · rw [e, Lib.encodeRuneZ_one (by omega) (by omega)]; rfl
  · rw [e, Lib.encodeRuneZ_two (by omega) (by omega)]; rfl
  · rw [e, Lib.encodeRuneZ_bad (by omega)]; rfl
  · rw [e, Lib.encodeRuneZ_three (by omega)]; rfl
  · rw [e, Lib.encodeRuneZ_four (by omega) (by omega)]; rfl
set_option maxRecDepth 100000 in
/-- The bytes of a character that is not plain are none of ASCII. -/
theorem enc8_high (r : Nat) (h : 128 ≤ r) : ∀ b ∈ enc8 r, 128 ≤ b.toNat := by
  unfold enc8
  intro b hb
  rcases enc_cases r with ⟨h, e⟩ | ⟨h1, h2, e⟩ | ⟨h, e⟩ | ⟨h1, h2, h3, e⟩ | ⟨h1, h2, e⟩
  all_goals rw [e] at hb
  all_goals simp only [List.mem_cons, List.not_mem_nil, or_false] at hb
  · omega
  · rcases hb with rfl | rfl
    all_goals (rw [UInt8.toNat_ofNat_of_lt' (by show _ < 256; omega)]; omega)
  · rcases hb with rfl | rfl | rfl
    all_goals decide
  · rcases hb with rfl | rfl | rfl
    all_goals (rw [UInt8.toNat_ofNat_of_lt' (by show _ < 256; omega)]; omega)
  · rcases hb with rfl | rfl | rfl | rfl
    all_goals (rw [UInt8.toNat_ofNat_of_lt' (by show _ < 256; omega)]; omega)
set_option maxRecDepth 100000 in
theorem enc8_low (r : Nat) (h : r < 128) : enc8 r = [UInt8.ofNat r] := by
  unfold enc8
  rcases enc_cases r with ⟨h, e⟩ | ⟨h1, h2, e⟩ | ⟨h, e⟩ | ⟨h1, h2, h3, e⟩ | ⟨h1, h2, e⟩
  · exact e
  all_goals omega
theorem scalarN (n b0 b1 b2 b3 : Nat) : scalar (Lib.decodeN n b0 b1 b2 b3).1 := by
  unfold Lib.decodeN
  repeat' split
  all_goals (simp only [scalar]; omega)
theorem scalar_of (l : List UInt8) : scalar (decodeL l).1 := by
  rw [Lib.decodeL_N]; exact scalarN _ _ _ _ _

set_option maxRecDepth 100000 in
/-- A text that is valid is its characters, written. -/
theorem chars_back (n : Nat) : ∀ (l : List UInt8), l.length ≤ n → validD l = true → (chars l).flatMap enc8 = l ∧ ∀ c ∈ chars l, scalar c := by
  induction n with
  | zero =>
    intro l h _
    have : l = [] := List.eq_nil_of_length_eq_zero (by omega)
    subst this; simp [chars_nil]
  | succ n ih =>
    intro l h hv
    by_cases hne : l = []
    · subst hne; simp [chars_nil]
    · have hp := decode_pos l
      have hl : 1 ≤ l.length := by cases l <;> simp_all
      rw [Lib.validD_step l hne] at hv
      split at hv
      · cases hv
      · rename_i hnv
        obtain ⟨h1, h2⟩ := ih (l.drop (decodeL l).2) (by simp; omega) hv
        rw [chars_step l hne]
        refine ⟨?_, ?_⟩
        · rw [List.flatMap_cons, h1]
          unfold enc8
          rw [encode_same, Lib.encode_decode l hne hnv, List.take_append_drop]
        · intro c hc
          rcases List.mem_cons.1 hc with rfl | hc
          · exact scalar_of l
          · exact h2 c hc
/-- A plain byte is a character. -/
theorem chars_ascii (c : UInt8) (l : List UInt8) (h : c.toNat < 128) : chars (c :: l) = c.toNat :: chars l := by
  rw [chars_step _ (by simp), Lib.decodeL_ascii c l h]; rfl
end Go.Proofs.YtidokamjbglkbaaGreatDoor

/- Names as they are written. Plain lists. -/
namespace Go.Proofs.YtidokamjbglkbaaGreatDoor
open Go.Lib (decodeL validD)

theorem dec_is10 (n : Nat) : ∀ c ∈ Lib.decDigits n, is10 c := by
  induction n using Nat.strongRecOn with
  | _ n ih =>
    intro c hc
    rw [Lib.decDigits] at hc
    split at hc
    · rename_i h
      rw [List.mem_singleton] at hc; subst hc
      unfold is10
      rw [UInt8.toNat_ofNat_of_lt' (by show _ < 256; omega)]; omega
    · rename_i h
      rcases List.mem_append.1 hc with hc | hc
      · exact ih _ (by omega) c hc
      · rw [List.mem_singleton] at hc; subst hc
        unfold is10
        rw [UInt8.toNat_ofNat_of_lt' (by show _ < 256; omega)]; omega
theorem f10_append (l m : List UInt8) (x : Nat) : f10 (l ++ m) x = f10 m (f10 l x) := by simp [f10, List.foldl_append]
theorem dec_f10 (n : Nat) : f10 (Lib.decDigits n) 0 = n := by
  induction n using Nat.strongRecOn with
  | _ n ih =>
    rw [Lib.decDigits]
    split
    · rename_i h
      rw [f10_cons, f10_nil, UInt8.toNat_ofNat_of_lt' (by show _ < 256; omega)]; omega
    · rename_i h
      rw [f10_append, ih _ (by omega), f10_cons, f10_nil, UInt8.toNat_ofNat_of_lt' (by show _ < 256; omega)]; omega
theorem dec_ne (n : Nat) : Lib.decDigits n ≠ [] := by rw [Lib.decDigits]; split <;> simp
/-- A digit stands in front. -/
theorem dec_head (n : Nat) : ∃ c l, Lib.decDigits n = c :: l ∧ is10 c := by
  cases h : Lib.decDigits n with
  | nil => exact absurd h (dec_ne n)
  | cons c l => exact ⟨c, l, rfl, dec_is10 n c (by rw [h]; simp)⟩

/-- The bytes of which a plain name is made. -/
def isIdB (c : UInt8) : Bool := (decide (48 ≤ c.toNat) && decide (c.toNat ≤ 57)) || ((decide (65 ≤ c.toNat) && decide (c.toNat ≤ 90)) || ((decide (97 ≤ c.toNat) && decide (c.toNat ≤ 122)) || decide (c.toNat = 95)))
theorem isIdB_iff (c : UInt8) : isIdB c = true ↔ isId c := by
  unfold isIdB isId is10
  simp only [Bool.or_eq_true, Bool.and_eq_true, decide_eq_true_eq]
def isIdN (n : Nat) : Bool := (decide (48 ≤ n) && decide (n ≤ 57)) || ((decide (65 ≤ n) && decide (n ≤ 90)) || ((decide (97 ≤ n) && decide (n ≤ 122)) || decide (n = 95)))
/-- Bytes behind their number. -/
def counted' (l : List UInt8) : List UInt8 := Lib.decDigits l.length ++ ((if startsDU l then [95] else []) ++ l)
/-- A name, written. -/
def idW (nm : List UInt8) : List UInt8 := if nm = [] then [48, 95] else if nm.all isIdB then counted' nm else 117 :: counted' (punyOf (chars nm))
def charOk (n : Nat) : Bool := decide (128 ≤ n) || isIdN n
/-- A name that may be written. -/
def nameB (nm : List UInt8) : Bool :=
  if nm.all isIdB && !nm.isEmpty then decide (nm.length ≤ 1000)
  else validD nm && (decide ((chars nm).length ≠ 0) && (decide ((chars nm).length ≤ 60) && (chars nm).all charOk))

theorem letter_id (d : Nat) (h : d < 36) : isId (letter d) ∧ (letter d).toNat ≠ 95 := by
  unfold isId is10
  rw [letter_nat d h]
  split <;> omega
theorem isIdN_nat {n : Nat} (h : isIdN n = true) : isId (UInt8.ofNat n) ∧ n < 128 := by
  unfold isIdN at h
  simp only [Bool.or_eq_true, Bool.and_eq_true, decide_eq_true_eq] at h
  have hn : n < 256 := by omega
  unfold isId is10
  rw [UInt8.toNat_ofNat_of_lt' (by show n < 256; exact hn)]
  omega

/-- What is known of a name in Punycode. -/
theorem puny_name {nm : List UInt8} (hv : validD nm = true) (hl : (chars nm).length ≤ 60) (hok : (chars nm).all charOk = true) :
    (∀ c ∈ punyOf (chars nm), isId c) ∧ (punyOf (chars nm)).length ≤ 700 ∧ (chars nm).flatMap enc8 = nm ∧
    ∃ e, punyOf (chars nm) = (bytesOf (basicOf (chars nm)) ++ (if (basicOf (chars nm)).length = 0 then [] else [95])) ++ e ∧ Pun 0 128 72 (basicOf (chars nm)) e (chars nm) ∧ (∀ c ∈ e, ∃ d, d < 36 ∧ c = letter d) ∧
      (∀ x ∈ basicOf (chars nm), isIdN x = true) := by
  obtain ⟨h1, h2⟩ := chars_back nm.length nm (Nat.le_refl _) hv
  obtain ⟨e, he, hP, hlen, hb⟩ := puny_read (chars nm) hl h2
  have hbas : ∀ x ∈ basicOf (chars nm), isIdN x = true := by
    intro x hx
    obtain ⟨hx1, hx2⟩ := List.mem_filter.1 hx
    have := List.all_eq_true.1 hok x hx1
    unfold charOk at this
    simp only [decide_eq_true_eq] at hx2
    have h128 : decide (128 ≤ x) = false := by simpa using hx2
    simpa [h128] using this
  refine ⟨?_, ?_, h1, e, he, hP, hb, hbas⟩
  · intro c hc
    rw [he] at hc
    rcases List.mem_append.1 hc with hc | hc
    · rcases List.mem_append.1 hc with hc | hc
      · obtain ⟨x, hx, rfl⟩ := List.mem_map.1 hc
        exact (isIdN_nat (hbas x hx)).1
      · split at hc
        · cases hc
        · simp at hc; subst hc
          unfold isId; right; right; right; rfl
    · obtain ⟨d, hd, rfl⟩ := hb c hc
      exact (letter_id d hd).1
  · have hbl : (basicOf (chars nm)).length ≤ (chars nm).length := List.length_filter_le _ _
    rw [he]
    simp only [List.length_append, bytesOf, List.length_map]
    split <;> simp <;> omega

theorem nameB_cases {nm : List UInt8} (h : nameB nm = true) : (nm ≠ [] ∧ (∀ c ∈ nm, isId c) ∧ nm.length ≤ 1000 ∧ idW nm = counted' nm) ∨
    (nm ≠ [] ∧ validD nm = true ∧ (chars nm).length ≤ 60 ∧ (chars nm).all charOk = true ∧ idW nm = 117 :: counted' (punyOf (chars nm))) := by
  unfold nameB at h
  split at h
  · rename_i hp
    simp only [Bool.and_eq_true, Bool.not_eq_true', List.isEmpty_eq_false_iff] at hp
    refine .inl ⟨hp.2, fun c hc => (isIdB_iff c).1 (List.all_eq_true.1 hp.1 c hc), by simpa using h, ?_⟩
    unfold idW
    rw [if_neg hp.2, if_pos hp.1]
  · rename_i hp
    simp only [Bool.and_eq_true, decide_eq_true_eq] at h
    have hne : nm ≠ [] := by intro e; subst e; exact h.2.1 rfl
    refine .inr ⟨hne, h.1, h.2.2.1, h.2.2.2, ?_⟩
    unfold idW
    rw [if_neg hne, if_neg]
    intro ha
    refine hp ?_
    simp only [Bool.and_eq_true, Bool.not_eq_true', List.isEmpty_eq_false_iff]
    exact ⟨ha, hne⟩
theorem nameB_ne {nm : List UInt8} (h : nameB nm = true) : nm ≠ [] := by
  rcases nameB_cases h with h | h
  · exact h.1
  · exact h.1
theorem dec_len (n : Nat) (h : n < 10 ^ 7) : (Lib.decDigits n).length ≤ 7 := by
  have : ∀ (k n : Nat), n < 10 ^ (k + 1) → (Lib.decDigits n).length ≤ k + 1 := by
    intro k
    induction k with
    | zero => intro n h; rw [Lib.decDigits, dif_pos (by simpa using h)]; simp
    | succ k ih =>
      intro n h
      rw [Lib.decDigits]
      split
      · simp
      · have := ih (n / 10) (by rw [Nat.pow_succ] at h; omega)
        simp; omega
  exact this 6 n h
theorem counted_len (l : List UInt8) (h : l.length ≤ 1000) : (counted' l).length ≤ 1008 := by
  have := dec_len l.length (by omega)
  unfold counted'
  simp only [List.length_append]
  split <;> simp <;> omega
theorem idW_len {nm : List UInt8} (h : nameB nm = true) : (idW nm).length ≤ 1009 := by
  rcases nameB_cases h with ⟨_, _, hl, e⟩ | ⟨_, hv, hl, hok, e⟩
  · rw [e]; have := counted_len nm hl; omega
  · rw [e]
    have := counted_len (punyOf (chars nm)) (by have := (puny_name hv hl hok).2.1; omega)
    simp; omega
/-- A written name has a digit or u in front, and bytes of names throughout. -/
theorem idW_head {nm : List UInt8} (h : nameB nm = true) : ∃ c l, idW nm = c :: l ∧ (is10 c ∨ c = 117) := by
  rcases nameB_cases h with ⟨_, _, hl, e⟩ | ⟨_, hv, hl, hok, e⟩
  · obtain ⟨c, l, e1, hc⟩ := dec_head nm.length
    exact ⟨c, l ++ ((if startsDU nm then [95] else []) ++ nm), by rw [e, counted', e1]; rfl, .inl hc⟩
  · exact ⟨117, _, e, .inr rfl⟩
theorem counted_id {l : List UInt8} (h : ∀ c ∈ l, isId c) : ∀ c ∈ counted' l, isId c := by
  intro c hc
  unfold counted' at hc
  rcases List.mem_append.1 hc with hc | hc
  · exact .inl (dec_is10 _ c hc)
  · rcases List.mem_append.1 hc with hc | hc
    · split at hc
      · simp at hc; subst hc; exact .inr (.inr (.inr rfl))
      · cases hc
    · exact h c hc
theorem idW_id {nm : List UInt8} (h : nameB nm = true) : ∀ c ∈ idW nm, isId c := by
  rcases nameB_cases h with ⟨_, hid, hl, e⟩ | ⟨_, hv, hl, hok, e⟩
  · rw [e]; exact counted_id hid
  · rw [e]
    intro c hc
    rcases List.mem_cons.1 hc with rfl | hc
    · exact .inr (.inr (.inl (by decide)))
    · exact counted_id (puny_name hv hl hok).1 c hc
theorem sep_counted (l k : List UInt8) (hl : l ≠ []) : SepOk (if startsDU l then [95] else []) (l ++ k) := by
  cases l with
  | nil => exact absurd rfl hl
  | cons c l =>
    by_cases h : startsDU (c :: l) = true
    · rw [if_pos h]; exact .inl rfl
    · rw [if_neg h]
      unfold startsDU at h
      simp only [Bool.or_eq_true, Bool.and_eq_true, decide_eq_true_eq] at h
      refine .inr ⟨rfl, ?_, ?_⟩
      · intro x hx
        simp at hx; subst hx
        unfold is10; omega
      · intro x hx
        simp at hx; subst hx
        omega
/-- The bytes of a name: those of plain names, and none of ASCII. -/
theorem name_bytes {nm : List UInt8} (h : nameB nm = true) : ∀ b ∈ nm, isId b ∨ 128 ≤ b.toNat := by
  rcases nameB_cases h with ⟨_, hid, _, _⟩ | ⟨_, hv, hl, hok, _⟩
  · exact fun b hb => .inl (hid b hb)
  · obtain ⟨_, _, h1, _⟩ := puny_name hv hl hok
    intro b hb
    rw [← h1] at hb
    obtain ⟨c, hc, hbc⟩ := List.mem_flatMap.1 hb
    rcases Nat.lt_or_ge c 128 with hlt | hge
    · rw [enc8_low c hlt] at hbc
      simp at hbc; subst hbc
      have := List.all_eq_true.1 hok c hc
      unfold charOk at this
      have h128 : decide (128 ≤ c) = false := by simp; omega
      rw [h128, Bool.false_or] at this
      exact .inl (isIdN_nat this).1
    · exact .inr (enc8_high c hge b hbc)
/-- The last byte of a name is no blank; no byte is a dot. -/
theorem name_last {nm : List UInt8} (h : nameB nm = true) (hne : nm ≠ []) : (nm.getLast hne).toNat ≠ 32 := by
  have := name_bytes h _ (List.getLast_mem hne)
  unfold isId is10 at this
  omega
end Go.Proofs.YtidokamjbglkbaaGreatDoor

