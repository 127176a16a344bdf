/- Names as they are written. Plain lists. -/
import Derived.Test.YtdapnoocmpbijaaGreatDoorY04
import Derived.Test.YtdapnoocmpbijaaGreatDoorY03
import Derived.Lib.LastIndexByte
import Derived.Laws.Cover4
import Derived.Test.YtdapnoocmpbijaaGreatDoorShelf
namespace Go.Proofs.YtdapnoocmpbijaaGreatDoor
open Go.Lib (decodeL validD)

theorem dec_is10 (n : Nat) : ∀ c ∈ Lib.decDigits n, is10 c := by
  induction n using Nat.strongRecOn with
  | _ n ih =>
    intro c hc
    rw [Lib.decDigits] at hc
    split at hc
    · rename_i h
      rw [List.mem_singleton] at hc; subst hc
      unfold is10
      rw [UInt8.toNat_ofNat_of_lt' (by show _ < 256; omega)]; omega
    · rename_i h
      rcases List.mem_append.1 hc with hc | hc
      · exact ih _ (by omega) c hc
      · rw [List.mem_singleton] at hc; subst hc
        unfold is10
        rw [UInt8.toNat_ofNat_of_lt' (by show _ < 256; omega)]; omega
theorem f10_append (l m : List UInt8) (x : Nat) : f10 (l ++ m) x = f10 m (f10 l x) := by simp [f10, List.foldl_append]
theorem dec_f10 (n : Nat) : f10 (Lib.decDigits n) 0 = n := by
  induction n using Nat.strongRecOn with
  | _ n ih =>
    rw [Lib.decDigits]
    split
    · rename_i h
      rw [f10_cons, f10_nil, UInt8.toNat_ofNat_of_lt' (by show _ < 256; omega)]; omega
    · rename_i h
      rw [f10_append, ih _ (by omega), f10_cons, f10_nil, UInt8.toNat_ofNat_of_lt' (by show _ < 256; omega)]; omega
theorem dec_ne (n : Nat) : Lib.decDigits n ≠ [] := by rw [Lib.decDigits]; split <;> simp
/-- A digit stands in front. -/
theorem dec_head (n : Nat) : ∃ c l, Lib.decDigits n = c :: l ∧ is10 c := by
  cases h : Lib.decDigits n with
  | nil => exact absurd h (dec_ne n)
  | cons c l => exact ⟨c, l, rfl, dec_is10 n c (by rw [h]; simp)⟩

/-- The bytes of which a plain name is made. -/
def isIdB (c : UInt8) : Bool := (decide (48 ≤ c.toNat) && decide (c.toNat ≤ 57)) || ((decide (65 ≤ c.toNat) && decide (c.toNat ≤ 90)) || ((decide (97 ≤ c.toNat) && decide (c.toNat ≤ 122)) || decide (c.toNat = 95)))
theorem isIdB_iff (c : UInt8) : isIdB c = true ↔ isId c := by
  unfold isIdB isId is10
  simp only [Bool.or_eq_true, Bool.and_eq_true, decide_eq_true_eq]
def isIdN (n : Nat) : Bool := (decide (48 ≤ n) && decide (n ≤ 57)) || ((decide (65 ≤ n) && decide (n ≤ 90)) || ((decide (97 ≤ n) && decide (n ≤ 122)) || decide (n = 95)))
/-- Bytes behind their number. -/
def counted' (l : List UInt8) : List UInt8 := Lib.decDigits l.length ++ ((if startsDU l then [95] else []) ++ l)
/-- A name, written. -/
def idW (nm : List UInt8) : List UInt8 := if nm = [] then [48, 95] else if nm.all isIdB then counted' nm else 117 :: counted' (punyOf (chars nm))
def charOk (n : Nat) : Bool := decide (128 ≤ n) || isIdN n
/-- A name that may be written. -/
def nameB (nm : List UInt8) : Bool :=
  if nm.all isIdB && !nm.isEmpty then decide (nm.length ≤ 1000)
  else validD nm && (decide ((chars nm).length ≠ 0) && (decide ((chars nm).length ≤ 60) && (chars nm).all charOk))

theorem letter_id (d : Nat) (h : d < 36) : isId (letter d) ∧ (letter d).toNat ≠ 95 := by
  unfold isId is10
  rw [letter_nat d h]
  split <;> omega
theorem isIdN_nat {n : Nat} (h : isIdN n = true) : isId (UInt8.ofNat n) ∧ n < 128 := by
  unfold isIdN at h
  simp only [Bool.or_eq_true, Bool.and_eq_true, decide_eq_true_eq] at h
  have hn : n < 256 := by omega
  unfold isId is10
  rw [UInt8.toNat_ofNat_of_lt' (by show n < 256; exact hn)]
  omega

/-- What is known of a name in Punycode. -/
theorem puny_name {nm : List UInt8} (hv : validD nm = true) (hl : (chars nm).length ≤ 60) (hok : (chars nm).all charOk = true) :
    (∀ c ∈ punyOf (chars nm), isId c) ∧ (punyOf (chars nm)).length ≤ 700 ∧ (chars nm).flatMap enc8 = nm ∧
    ∃ e, punyOf (chars nm) = (bytesOf (basicOf (chars nm)) ++ (if (basicOf (chars nm)).length = 0 then [] else [95])) ++ e ∧ Pun 0 128 72 (basicOf (chars nm)) e (chars nm) ∧ (∀ c ∈ e, ∃ d, d < 36 ∧ c = letter d) ∧
      (∀ x ∈ basicOf (chars nm), isIdN x = true) := by
  obtain ⟨h1, h2⟩ := chars_back nm.length nm (Nat.le_refl _) hv
  obtain ⟨e, he, hP, hlen, hb⟩ := puny_read (chars nm) hl h2
  have hbas : ∀ x ∈ basicOf (chars nm), isIdN x = true := by
    intro x hx
    obtain ⟨hx1, hx2⟩ := List.mem_filter.1 hx
    have := List.all_eq_true.1 hok x hx1
    unfold charOk at this
    simp only [decide_eq_true_eq] at hx2
    have h128 : decide (128 ≤ x) = false := by simpa using hx2
    simpa [h128] using this
  refine ⟨?_, ?_, h1, e, he, hP, hb, hbas⟩
  · intro c hc
    rw [he] at hc
    rcases List.mem_append.1 hc with hc | hc
    · rcases List.mem_append.1 hc with hc | hc
      · obtain ⟨x, hx, rfl⟩ := List.mem_map.1 hc
        exact (isIdN_nat (hbas x hx)).1
      · split at hc
        · cases hc
        · simp at hc; subst hc
          unfold isId; right; right; right; rfl
    · obtain ⟨d, hd, rfl⟩ := hb c hc
      exact (letter_id d hd).1
  · have hbl : (basicOf (chars nm)).length ≤ (chars nm).length := List.length_filter_le _ _
    rw [he]
    simp only [List.length_append, bytesOf, List.length_map]
    split <;> simp <;> omega

theorem nameB_cases {nm : List UInt8} (h : nameB nm = true) : (nm ≠ [] ∧ (∀ c ∈ nm, isId c) ∧ nm.length ≤ 1000 ∧ idW nm = counted' nm) ∨
    (nm ≠ [] ∧ validD nm = true ∧ (chars nm).length ≤ 60 ∧ (chars nm).all charOk = true ∧ idW nm = 117 :: counted' (punyOf (chars nm))) := by
  unfold nameB at h
  split at h
  · rename_i hp
    simp only [Bool.and_eq_true, Bool.not_eq_true', List.isEmpty_eq_false_iff] at hp
    refine .inl ⟨hp.2, fun c hc => (isIdB_iff c).1 (List.all_eq_true.1 hp.1 c hc), by simpa using h, ?_⟩
    unfold idW
    rw [if_neg hp.2, if_pos hp.1]
  · rename_i hp
    simp only [Bool.and_eq_true, decide_eq_true_eq] at h
    have hne : nm ≠ [] := by intro e; subst e; exact h.2.1 rfl
    refine .inr ⟨hne, h.1, h.2.2.1, h.2.2.2, ?_⟩
    unfold idW
    rw [if_neg hne, if_neg]
    intro ha
    refine hp ?_
    simp only [Bool.and_eq_true, Bool.not_eq_true', List.isEmpty_eq_false_iff]
    exact ⟨ha, hne⟩
theorem nameB_ne {nm : List UInt8} (h : nameB nm = true) : nm ≠ [] := by
  rcases nameB_cases h with h | h
  · exact h.1
  · exact h.1
theorem dec_len (n : Nat) (h : n < 10 ^ 7) : (Lib.decDigits n).length ≤ 7 := by
  have : ∀ (k n : Nat), n < 10 ^ (k + 1) → (Lib.decDigits n).length ≤ k + 1 := by
    intro k
    induction k with
    | zero => intro n h; rw [Lib.decDigits, dif_pos (by simpa using h)]; simp
    | succ k ih =>
      intro n h
      rw [Lib.decDigits]
      split
      · simp
      · have := ih (n / 10) (by rw [Nat.pow_succ] at h; omega)
        simp; omega
  exact this 6 n h
theorem counted_len (l : List UInt8) (h : l.length ≤ 1000) : (counted' l).length ≤ 1008 := by
  have := dec_len l.length (by omega)
  unfold counted'
  simp only [List.length_append]
  split <;> simp <;> omega
theorem idW_len {nm : List UInt8} (h : nameB nm = true) : (idW nm).length ≤ 1009 := by
  rcases nameB_cases h with ⟨_, _, hl, e⟩ | ⟨_, hv, hl, hok, e⟩
  · rw [e]; have := counted_len nm hl; omega
  · rw [e]
    have := counted_len (punyOf (chars nm)) (by have := (puny_name hv hl hok).2.1; omega)
    simp; omega
/-- A written name has a digit or u in front, and bytes of names throughout. -/
theorem idW_head {nm : List UInt8} (h : nameB nm = true) : ∃ c l, idW nm = c :: l ∧ (is10 c ∨ c = 117) := by
  rcases nameB_cases h with ⟨_, _, hl, e⟩ | ⟨_, hv, hl, hok, e⟩
  · obtain ⟨c, l, e1, hc⟩ := dec_head nm.length
    exact ⟨c, l ++ ((if startsDU nm then [95] else []) ++ nm), by rw [e, counted', e1]; rfl, .inl hc⟩
  · exact ⟨117, _, e, .inr rfl⟩
theorem counted_id {l : List UInt8} (h : ∀ c ∈ l, isId c) : ∀ c ∈ counted' l, isId c := by
  intro c hc
  unfold counted' at hc
  rcases List.mem_append.1 hc with hc | hc
  · exact .inl (dec_is10 _ c hc)
  · rcases List.mem_append.1 hc with hc | hc
    · split at hc
      · simp at hc; subst hc; exact .inr (.inr (.inr rfl))
      · cases hc
    · exact h c hc
theorem idW_id {nm : List UInt8} (h : nameB nm = true) : ∀ c ∈ idW nm, isId c := by
  rcases nameB_cases h with ⟨_, hid, hl, e⟩ | ⟨_, hv, hl, hok, e⟩
  · rw [e]; exact counted_id hid
  · rw [e]
    intro c hc
    rcases List.mem_cons.1 hc with rfl | hc
    · exact .inr (.inr (.inl (by decide)))
    · exact counted_id (puny_name hv hl hok).1 c hc
theorem sep_counted (l k : List UInt8) (hl : l ≠ []) : SepOk (if startsDU l then [95] else []) (l ++ k) := by
  cases l with
  | nil => exact absurd rfl hl
  | cons c l =>
    by_cases h : startsDU (c :: l) = true
    · rw [if_pos h]; exact .inl rfl
    · rw [if_neg h]
      unfold startsDU at h
      simp only [Bool.or_eq_true, Bool.and_eq_true, decide_eq_true_eq] at h
      refine .inr ⟨rfl, ?_, ?_⟩
      · intro x hx
        simp at hx; subst hx
        unfold is10; omega
      · intro x hx
        simp at hx; subst hx
        omega
/-- The bytes of a name: those of plain names, and none of ASCII. -/
theorem name_bytes {nm : List UInt8} (h : nameB nm = true) : ∀ b ∈ nm, isId b ∨ 128 ≤ b.toNat := by
  rcases nameB_cases h with ⟨_, hid, _, _⟩ | ⟨_, hv, hl, hok, _⟩
  · exact fun b hb => .inl (hid b hb)
  · obtain ⟨_, _, h1, _⟩ := puny_name hv hl hok
    intro b hb
    rw [← h1] at hb
    obtain ⟨c, hc, hbc⟩ := List.mem_flatMap.1 hb
    rcases Nat.lt_or_ge c 128 with hlt | hge
    · rw [enc8_low c hlt] at hbc
      simp at hbc; subst hbc
      have := List.all_eq_true.1 hok c hc
      unfold charOk at this
      have h128 : decide (128 ≤ c) = false := by simp; omega
      rw [h128, Bool.false_or] at this
      exact .inl (isIdN_nat this).1
    · exact .inr (enc8_high c hge b hbc)
/-- The last byte of a name is no blank; no byte is a dot. -/
theorem name_last {nm : List UInt8} (h : nameB nm = true) (hne : nm ≠ []) : (nm.getLast hne).toNat ≠ 32 := by
  have := name_bytes h _ (List.getLast_mem hne)
  unfold isId is10 at this
  omega
end Go.Proofs.YtdapnoocmpbijaaGreatDoor

/- Right trees. -/
namespace Go.Proofs.YtdapnoocmpbijaaGreatDoor

def isPathK (k : Int) : Prop := 1 ≤ k ∧ k ≤ 6
def isTypeK (k : Int) : Prop := 1 ≤ k ∧ k ≤ 16
def isConstK (k : Int) : Prop := k = 20 ∨ k = 21
def isArgK (k : Int) : Prop := isTypeK k ∨ k = 19 ∨ isConstK k
/-- What may stand where something is wanted. -/
def fitsK (k : Int) (want : Nat) : Prop :=
  if want = 0 then isPathK k else if want = 1 then isTypeK k else if want = 2 then isArgK k else if want = 3 then isConstK k else if want = 4 then k = 17 else k = 18
instance (k : Int) : Decidable (isPathK k) := inferInstanceAs (Decidable (_ ∧ _))
instance (k : Int) : Decidable (isTypeK k) := inferInstanceAs (Decidable (_ ∧ _))
instance (k : Int) : Decidable (isConstK k) := inferInstanceAs (Decidable (_ ∨ _))
instance (k : Int) : Decidable (isArgK k) := inferInstanceAs (Decidable (_ ∨ _ ∨ _))
instance (k : Int) (want : Nat) : Decidable (fitsK k want) := by unfold fitsK; infer_instance

/-- An ABI that may be written. -/
def lowB (c : UInt8) : Bool := decide (97 ≤ c.toNat) && decide (c.toNat ≤ 122)
def abiTail (c : UInt8) : Bool := lowB c || (decide (c.toNat = 45) || (decide (48 ≤ c.toNat) && decide (c.toNat ≤ 57)))
def abiB (nm : List UInt8) : Bool :=
  decide (nm = []) || (decide (nm = [67]) || (match nm with | [] => false | c :: l => lowB c && (l.all abiTail && decide (nm.length ≤ 20))))

/-- A tree that is right where b lifetimes are bound. -/
inductive Rt : Nat → RT → Prop
  | crate (b c nm n fl) (hn : n < 4611686018427387904) (hm : nameB nm = true) : Rt b (.mk 1 c nm n fl [])
  | impl (b c nm n fl p t) (hn : n < 4611686018427387904) (hp : Rt 0 p) (kp : isPathK p.kd) (ht : Rt b t) (kt : isTypeK t.kd) : Rt b (.mk 2 c nm n fl [p, t])
  | timpl (b c nm n fl p t q) (hn : n < 4611686018427387904) (hp : Rt 0 p) (kp : isPathK p.kd) (ht : Rt b t) (kt : isTypeK t.kd) (hq : Rt b q) (kq : isPathK q.kd) : Rt b (.mk 3 c nm n fl [p, t, q])
  | tdef (b c nm n fl t q) (hn : n < 4611686018427387904) (ht : Rt b t) (kt : isTypeK t.kd) (hq : Rt b q) (kq : isPathK q.kd) : Rt b (.mk 4 c nm n fl [t, q])
  | nested (b c nm n fl p) (hn : n < 4611686018427387904) (hc : (lowB c = true ∧ nameB nm = true) ∨ ((c = 67 ∨ c = 83) ∧ (nameB nm = true ∨ nm = []))) (hp : Rt b p) (kp : isPathK p.kd) : Rt b (.mk 5 c nm n fl [p])
  | gen (b c nm n fl p gs) (hn : n < 4611686018427387904) (has : gs ≠ []) (hp : Rt b p) (kp : isPathK p.kd) (ha : ∀ a ∈ gs, Rt b a) (ka : ∀ a ∈ gs, isArgK a.kd) : Rt b (.mk 6 c nm n fl (p :: gs))
  | basic (b c nm n fl) (hc : basicText c.toNat ≠ []) : Rt b (.mk 7 c nm n fl [])
  | arr (b c nm n fl t k) (ht : Rt b t) (kt : isTypeK t.kd) (hk : Rt b k) (kk : isConstK k.kd) : Rt b (.mk 8 c nm n fl [t, k])
  | slice (b c nm n fl t) (ht : Rt b t) (kt : isTypeK t.kd) : Rt b (.mk 9 c nm n fl [t])
  | tuple (b c nm n fl ts) (ht : ∀ t ∈ ts, Rt b t) (kt : ∀ t ∈ ts, isTypeK t.kd) : Rt b (.mk 10 c nm n fl ts)
  | ref (b c nm n fl t) (hn : n ≤ b) (ht : Rt b t) (kt : isTypeK t.kd) : Rt b (.mk 11 c nm n fl [t])
  | mut (b c nm n fl t) (hn : n ≤ b) (ht : Rt b t) (kt : isTypeK t.kd) : Rt b (.mk 12 c nm n fl [t])
  | cptr (b c nm n fl t) (ht : Rt b t) (kt : isTypeK t.kd) : Rt b (.mk 13 c nm n fl [t])
  | mptr (b c nm n fl t) (ht : Rt b t) (kt : isTypeK t.kd) : Rt b (.mk 14 c nm n fl [t])
  | fn (b c nm n fl ps r) (hn : b + n ≤ 20) (ha : abiB nm = true) (hr0 : ¬ (r.kd = 10 ∧ r.ks = [])) (hp : ∀ t ∈ ps, Rt (b + n) t) (kp : ∀ t ∈ ps, isTypeK t.kd) (hr : Rt (b + n) r) (kr : isTypeK r.kd) : Rt b (.mk 15 c nm n fl (ps ++ [r]))
  | dyn (b c nm n fl bs l) (hn : b + n ≤ 20) (hb0 : bs ≠ []) (hb : ∀ t ∈ bs, Rt (b + n) t) (kb : ∀ t ∈ bs, t.kd = 17) (hl : Rt b l) (kl : l.kd = 19) : Rt b (.mk 16 c nm n fl (bs ++ [l]))
  | bound (b c nm n fl p bd) (hp : Rt b p) (kp : isPathK p.kd) (hb : ∀ t ∈ bd, Rt b t) (kb : ∀ t ∈ bd, t.kd = 18) : Rt b (.mk 17 c nm n fl (p :: bd))
  | binding (b c nm n fl t) (hm : nameB nm = true) (ht : Rt b t) (kt : isTypeK t.kd) : Rt b (.mk 18 c nm n fl [t])
  | life (b c nm n fl) (hn : n ≤ b) : Rt b (.mk 19 c nm n fl [])
  | num (b c nm n fl K) (hK : KindOk K c n fl) (hn : n < 18446744073709551616) : Rt b (.mk 20 c nm n fl [])
  | hole (b c nm n fl) : Rt b (.mk 21 c nm n fl [])

theorem size_pos (t : RT) : 1 ≤ size t := by cases t; simp only [size]; omega
end Go.Proofs.YtdapnoocmpbijaaGreatDoor

/- What the writing of a tree begins with, and how long it is. Plain. -/
namespace Go.Proofs.YtdapnoocmpbijaaGreatDoor

/-- A letter that begins a path. -/
def pathHd (c : UInt8) : Prop := c.toNat = 67 ∨ c.toNat = 77 ∨ c.toNat = 88 ∨ c.toNat = 89 ∨ c.toNat = 78 ∨ c.toNat = 73
/-- A letter that begins a type. -/
def typeHd (c : UInt8) : Prop := pathHd c ∨ c.toNat = 65 ∨ c.toNat = 83 ∨ c.toNat = 84 ∨ c.toNat = 82 ∨ c.toNat = 81 ∨ c.toNat = 80 ∨ c.toNat = 79 ∨ c.toNat = 70 ∨ c.toNat = 68 ∨ (97 ≤ c.toNat ∧ c.toNat ≤ 122)
/-- A letter. -/
def letHd (c : UInt8) : Prop := (65 ≤ c.toNat ∧ c.toNat ≤ 90) ∨ (97 ≤ c.toNat ∧ c.toNat ≤ 122)
theorem pathHd.type {c : UInt8} (h : pathHd c) : typeHd c := .inl h
theorem typeHd.let {c : UInt8} (h : typeHd c) : letHd c := by unfold typeHd pathHd at h; unfold letHd; omega

theorem basic_low {c : Nat} (h : basicText c ≠ []) : 97 ≤ c ∧ c ≤ 122 := by
  refine Classical.byContradiction fun hn => h ?_
  unfold basicText
  simp only [show c ≠ 97 by omega, show c ≠ 98 by omega, show c ≠ 99 by omega, show c ≠ 100 by omega, show c ≠ 101 by omega, show c ≠ 102 by omega, show c ≠ 104 by omega, show c ≠ 105 by omega, show c ≠ 106 by omega, show c ≠ 108 by omega,
    show c ≠ 109 by omega, show c ≠ 110 by omega, show c ≠ 111 by omega, show c ≠ 112 by omega, show c ≠ 115 by omega, show c ≠ 116 by omega, show c ≠ 117 by omega, show c ≠ 118 by omega, show c ≠ 120 by omega, show c ≠ 121 by omega, show c ≠ 122 by omega, if_false]

theorem kind_low {K : Nat} {c : UInt8} {n : Nat} {fl : Bool} (h : KindOk K c n fl) : 97 ≤ c.toNat ∧ c.toNat ≤ 122 := by
  unfold KindOk isSg isUn at h
  omega

/-- What is known of the first letter. -/
structure HdOk (t : RT) (c : UInt8) (l : List UInt8) : Prop where
  lt : letHd c
  path : isPathK t.kd → pathHd c
  type : isTypeK t.kd → typeHd c
  u : isTypeK t.kd → c.toNat = 117 → t.kd = 7 ∧ t.c = c ∧ l = []

variable {idw : List UInt8 → List UInt8}
theorem path_head {b : Nat} {t : RT} (h : Rt b t) (hk : isPathK t.kd) : ∃ c l, enc idw t = c :: l ∧ pathHd c := by
  cases h with
  | crate => exact ⟨67, _, by simp only [enc]; rfl, by unfold pathHd; decide⟩
  | impl => exact ⟨77, _, by simp only [enc]; rfl, by unfold pathHd; decide⟩
  | timpl => exact ⟨88, _, by simp only [enc]; rfl, by unfold pathHd; decide⟩
  | tdef => exact ⟨89, _, by simp only [enc]; rfl, by unfold pathHd; decide⟩
  | nested => exact ⟨78, _, by simp only [enc]; rfl, by unfold pathHd; decide⟩
  | gen => exact ⟨73, _, by simp only [enc]; rfl, by unfold pathHd; decide⟩
  | arr => exact absurd (show isPathK 8 from hk) (by decide)
  | slice => exact absurd (show isPathK 9 from hk) (by decide)
  | tuple => exact absurd (show isPathK 10 from hk) (by decide)
  | ref => exact absurd (show isPathK 11 from hk) (by decide)
  | «mut» => exact absurd (show isPathK 12 from hk) (by decide)
  | cptr => exact absurd (show isPathK 13 from hk) (by decide)
  | mptr => exact absurd (show isPathK 14 from hk) (by decide)
  | fn => exact absurd (show isPathK 15 from hk) (by decide)
  | dyn => exact absurd (show isPathK 16 from hk) (by decide)
  | basic => exact absurd (show isPathK 7 from hk) (by decide)
  | bound => exact absurd (show isPathK 17 from hk) (by decide)
  | num => exact absurd (show isPathK 20 from hk) (by decide)
  | binding => exact absurd (show isPathK 18 from hk) (by decide)
  | life => exact absurd (show isPathK 19 from hk) (by decide)
  | hole => exact absurd (show isPathK 21 from hk) (by decide)
/-- The writing of a right tree begins with a letter: of a path, of a type .. -/
theorem enc_head {b : Nat} {t : RT} (h : Rt b t) : ∃ c l, enc idw t = c :: l ∧ HdOk t c l := by
  cases h with
  | crate => exact ⟨67, _, by simp only [enc]; rfl, by unfold letHd; decide, fun _ => by unfold pathHd; decide, fun _ => .inl (by unfold pathHd; decide), fun _ h => absurd h (by decide)⟩
  | impl => exact ⟨77, _, by simp only [enc]; rfl, by unfold letHd; decide, fun _ => by unfold pathHd; decide, fun _ => .inl (by unfold pathHd; decide), fun _ h => absurd h (by decide)⟩
  | timpl => exact ⟨88, _, by simp only [enc]; rfl, by unfold letHd; decide, fun _ => by unfold pathHd; decide, fun _ => .inl (by unfold pathHd; decide), fun _ h => absurd h (by decide)⟩
  | tdef => exact ⟨89, _, by simp only [enc]; rfl, by unfold letHd; decide, fun _ => by unfold pathHd; decide, fun _ => .inl (by unfold pathHd; decide), fun _ h => absurd h (by decide)⟩
  | nested => exact ⟨78, _, by simp only [enc]; rfl, by unfold letHd; decide, fun _ => by unfold pathHd; decide, fun _ => .inl (by unfold pathHd; decide), fun _ h => absurd h (by decide)⟩
  | gen => exact ⟨73, _, by simp only [enc]; rfl, by unfold letHd; decide, fun _ => by unfold pathHd; decide, fun _ => .inl (by unfold pathHd; decide), fun _ h => absurd h (by decide)⟩
  | arr => exact ⟨65, _, by simp only [enc]; rfl, by unfold letHd; decide, fun h => absurd (show isPathK 8 from h) (by decide), fun _ => .inr (by decide), fun _ h => absurd h (by decide)⟩
  | slice => exact ⟨83, _, by simp only [enc]; rfl, by unfold letHd; decide, fun h => absurd (show isPathK 9 from h) (by decide), fun _ => .inr (by decide), fun _ h => absurd h (by decide)⟩
  | tuple => exact ⟨84, _, by simp only [enc]; rfl, by unfold letHd; decide, fun h => absurd (show isPathK 10 from h) (by decide), fun _ => .inr (by decide), fun _ h => absurd h (by decide)⟩
  | ref => exact ⟨82, _, by simp only [enc]; rfl, by unfold letHd; decide, fun h => absurd (show isPathK 11 from h) (by decide), fun _ => .inr (by decide), fun _ h => absurd h (by decide)⟩
  | «mut» => exact ⟨81, _, by simp only [enc]; rfl, by unfold letHd; decide, fun h => absurd (show isPathK 12 from h) (by decide), fun _ => .inr (by decide), fun _ h => absurd h (by decide)⟩
  | cptr => exact ⟨80, _, by simp only [enc]; rfl, by unfold letHd; decide, fun h => absurd (show isPathK 13 from h) (by decide), fun _ => .inr (by decide), fun _ h => absurd h (by decide)⟩
  | mptr => exact ⟨79, _, by simp only [enc]; rfl, by unfold letHd; decide, fun h => absurd (show isPathK 14 from h) (by decide), fun _ => .inr (by decide), fun _ h => absurd h (by decide)⟩
  | fn => exact ⟨70, _, by simp only [enc]; rfl, by unfold letHd; decide, fun h => absurd (show isPathK 15 from h) (by decide), fun _ => .inr (by decide), fun _ h => absurd h (by decide)⟩
  | dyn => exact ⟨68, _, by simp only [enc]; rfl, by unfold letHd; decide, fun h => absurd (show isPathK 16 from h) (by decide), fun _ => .inr (by decide), fun _ h => absurd h (by decide)⟩
  | basic _ c nm n fl hc =>
    have := basic_low hc
    exact ⟨c, [], by simp only [enc]; rfl, .inr this, fun h => absurd (show isPathK 7 from h) (by decide), fun _ => by unfold typeHd; omega, fun _ _ => ⟨rfl, rfl, rfl⟩⟩
  | bound _ c nm n fl p bd hp kp hb kb =>
    obtain ⟨c', l', e, h'⟩ := path_head hp kp
    exact ⟨c', _, by simp only [enc, encs]; rw [e]; rfl, h'.type.let, fun h => absurd (show isPathK 17 from h) (by decide), fun h => absurd (show isTypeK 17 from h) (by decide), fun h => absurd (show isTypeK 17 from h) (by decide)⟩
  | num _ c nm n fl K hK hn =>
    exact ⟨c, _, by simp only [enc]; rfl, .inr (kind_low hK), fun h => absurd (show isPathK 20 from h) (by decide), fun h => absurd (show isTypeK 20 from h) (by decide), fun h => absurd (show isTypeK 20 from h) (by decide)⟩
  | binding => exact ⟨112, _, by simp only [enc]; rfl, by unfold letHd; decide, fun h => absurd (show isPathK 18 from h) (by decide), fun h => absurd (show isTypeK 18 from h) (by decide), fun h => absurd (show isTypeK 18 from h) (by decide)⟩
  | life => exact ⟨76, _, by simp only [enc]; rfl, by unfold letHd; decide, fun h => absurd (show isPathK 19 from h) (by decide), fun h => absurd (show isTypeK 19 from h) (by decide), fun h => absurd (show isTypeK 19 from h) (by decide)⟩
  | hole => exact ⟨112, _, by simp only [enc]; rfl, by unfold letHd; decide, fun h => absurd (show isPathK 21 from h) (by decide), fun h => absurd (show isTypeK 21 from h) (by decide), fun h => absurd (show isTypeK 21 from h) (by decide)⟩
end Go.Proofs.YtdapnoocmpbijaaGreatDoor

/- Lists of right trees: plain facts. -/
namespace Go.Proofs.YtdapnoocmpbijaaGreatDoor

variable {idw : List UInt8 → List UInt8}
theorem encsE_snoc (ps : List RT) (r : RT) : encsE idw (ps ++ [r]) = encs idw ps ++ (69 :: enc idw r) := by
  induction ps with
  | nil => simp only [List.nil_append, encsE, encs]
  | cons p ps ih =>
    cases ps with
    | nil => simp only [List.cons_append, List.nil_append, encsE, encs, List.append_nil]
    | cons q ps =>
      rw [List.cons_append, List.cons_append, encsE, ← List.cons_append, ih]
      simp [encs]
theorem bndsE_snoc (ps : List RT) (r : RT) : ∀ off lb : Nat, bndsE idw off lb (ps ++ [r]) = bndsL idw off lb ps ++ bnds idw (off + (encs idw ps).length + 1) lb r := by
  induction ps with
  | nil => intro off lb; simp only [List.nil_append, bndsE, bndsL, encs, List.length_nil, Nat.add_zero]
  | cons p ps ih =>
    intro off lb
    cases ps with
    | nil => simp only [List.cons_append, List.nil_append, bndsE, bndsL, encs, List.append_nil]
    | cons q ps =>
      rw [List.cons_append, List.cons_append, bndsE, ← List.cons_append, ih]
      simp [encs, bndsL, Nat.add_assoc]
theorem empL_snoc (ps : List RT) (r : RT) : empL (ps ++ [r]) = emp r := by
  induction ps with
  | nil => simp only [List.nil_append, empL]
  | cons p ps ih =>
    cases ps with
    | nil => simp only [List.cons_append, List.nil_append, empL]
    | cons q ps => rw [List.cons_append, List.cons_append, empL, ← List.cons_append, ih]
theorem empL_one (r : RT) : empL [r] = emp r := by simp only [empL]
theorem sizes_append (ps qs : List RT) : sizes (ps ++ qs) = sizes ps + sizes qs := by
  induction ps with
  | nil => simp only [List.nil_append, sizes, Nat.zero_add]
  | cons p ps ih => rw [List.cons_append, sizes, ih, sizes, Nat.add_assoc]
theorem size_mem {ps : List RT} {t : RT} (h : t ∈ ps) : size t ≤ sizes ps := by
  induction ps with
  | nil => cases h
  | cons p ps ih =>
    rw [sizes]
    rcases List.mem_cons.1 h with rfl | h
    · omega
    · have := ih h; omega
theorem len_sizes (ps : List RT) : ps.length ≤ sizes ps := by
  induction ps with
  | nil => simp [sizes]
  | cons p ps ih => rw [sizes]; have := size_pos p; simp; omega
theorem txtsT_len (lb : Nat) (ps : List RT) : (txtsT lb ps).length = ps.length := by
  induction ps with
  | nil => simp [txtsT]
  | cons p ps ih => simp [txtsT, ih]
theorem txtsT_append (lb : Nat) (ps qs : List RT) : txtsT lb (ps ++ qs) = txtsT lb ps ++ txtsT lb qs := by
  induction ps with
  | nil => simp [txtsT]
  | cons p ps ih => simp [txtsT, ih]
theorem txts_append (m : Md) (lb : Nat) (ps qs : List RT) : txts m lb (ps ++ qs) = txts m lb ps ++ txts m lb qs := by
  induction ps with
  | nil => simp [txts]
  | cons p ps ih => simp [txts, ih]
/-- A path, as a type or by itself. -/
theorem txt_path_t (lb : Nat) (t : RT) (h : isPathK t.kd) : txt .t lb t = txt (.p false) lb t := by
  cases t with
  | mk kd c nm n fl ks =>
    have hk : kd = 1 ∨ kd = 2 ∨ kd = 3 ∨ kd = 4 ∨ kd = 5 ∨ kd = 6 := by have : isPathK kd := h; unfold isPathK at this; omega
    rcases hk with rfl | rfl | rfl | rfl | rfl | rfl <;> simp [txt, Md.sep]
theorem txt_path_s (lb : Nat) (t : RT) (h : isPathK t.kd) (h6 : t.kd ≠ 6) : txt .s lb t = txt (.p false) lb t := by
  cases t with
  | mk kd c nm n fl ks =>
    have hk : kd = 1 ∨ kd = 2 ∨ kd = 3 ∨ kd = 4 ∨ kd = 5 := by have : isPathK kd := h; have h' : kd ≠ 6 := h6; unfold isPathK at this; omega
    rcases hk with rfl | rfl | rfl | rfl | rfl <;> simp [txt, Md.sep]

/-- No digit and no underscore is a letter. -/
theorem sep_let {c : UInt8} {l : List UInt8} (h : letHd c) : SepOk [] (c :: l) := by
  unfold letHd at h
  refine .inr ⟨rfl, ?_, ?_⟩
  · intro x hx
    simp at hx; subst hx
    unfold is10; omega
  · intro x hx
    simp at hx; subst hx
    omega
/-- What may follow a tree that is followed by a letter. -/
theorem sep_if {e : Bool} {c : UInt8} {l : List UInt8} (h : letHd c) : if e = true then SepOk [] (c :: l) else ([] : List UInt8) = [] := by
  split
  · exact sep_let h
  · rfl
theorem encs_head {b : Nat} {ts : List RT} (h : ∀ t ∈ ts, Rt b t) (k : List UInt8) : ∃ c l, encs idw ts ++ (69 :: k) = c :: l ∧ letHd c := by
  cases ts with
  | nil => exact ⟨69, k, by simp only [encs, List.nil_append], by unfold letHd; decide⟩
  | cons t ts =>
    obtain ⟨c, l, e, h'⟩ := enc_head (idw := idw) (h t (by simp))
    exact ⟨c, _, by rw [encs, e]; rfl, h'.lt⟩
theorem encsA_head {b : Nat} {ts : List RT} (h : ∀ t ∈ ts, Rt b t) (k : List UInt8) : ∃ c l, encsA idw ts ++ (69 :: k) = c :: l ∧ letHd c := by
  cases ts with
  | nil => exact ⟨69, k, by simp only [encsA, List.nil_append], by unfold letHd; decide⟩
  | cons t ts =>
    obtain ⟨c, l, e, h'⟩ := enc_head (idw := idw) (h t (by simp))
    unfold encsA argMark
    split
    · exact ⟨75, _, rfl, by unfold letHd; decide⟩
    · exact ⟨c, _, by rw [e]; rfl, h'.lt⟩
end Go.Proofs.YtdapnoocmpbijaaGreatDoor

/- Punycode: the reader's own steps, in plain numbers. -/
namespace Go.Proofs.YtdapnoocmpbijaaGreatDoor

theorem Pun.len {i n bias : Nat} {out fin : List Nat} {e : List UInt8} (h : Pun i n bias out e fin) : out.length ≤ fin.length := by
  induction h with
  | done => exact Nat.le_refl _
  | step i n bias delta q r out rest fin hd hq hr hs hb h ih => rw [insAt_len _ _ _ hr] at ih; omega
theorem adaptK_ge : ∀ (d k : Nat), k ≤ adaptK d k := by
  intro d
  induction d using Nat.strongRecOn with
  | _ d ih =>
    intro k
    rw [adaptK]
    split
    · exact Nat.le_trans (Nat.le_add_right _ _) (ih _ (by omega) _)
    · exact Nat.le_add_right _ _

/-- Where the reader stands within the digits of a delta: ii has been summed up, wt is the weight at the place p, dl is left. -/
structure Inn (bias i delta ii wt p dl : Nat) : Prop where
  sum : ii + wt * dl = i + delta
  ge : i ≤ ii
  one : thr p bias = 1 → wt = 35 ^ (p - 1)
  p1 : 1 ≤ p
  w1 : 1 ≤ wt

theorem Inn.start (bias i delta : Nat) : Inn bias i delta i 1 1 delta := ⟨by simp, Nat.le_refl _, fun _ => rfl, Nat.le_refl _, Nat.le_refl _⟩
theorem Inn.left {bias i delta ii wt p dl : Nat} (h : Inn bias i delta ii wt p dl) : wt * dl ≤ delta := by have := h.sum; have := h.ge; omega
theorem Inn.last {bias i delta ii wt p dl : Nat} (h : Inn bias i delta ii wt p dl) : ii + dl * wt = i + delta := by rw [Nat.mul_comm dl]; exact h.sum
theorem Inn.next {bias i delta ii wt p dl : Nat} (h : Inn bias i delta ii wt p dl) (hd : delta ≤ 68000000) (ht : ¬ dl < thr p bias) :
    (thr p bias + (dl - thr p bias) % (36 - thr p bias)) * wt ≤ 68000000 ∧ wt < 59652323 ∧
      Inn bias i delta (ii + (thr p bias + (dl - thr p bias) % (36 - thr p bias)) * wt) (wt * (36 - thr p bias)) (p + 1) ((dl - thr p bias) / (36 - thr p bias)) := by
  obtain ⟨t, hteq⟩ : ∃ t, t = thr p bias := ⟨_, rfl⟩
  have ht1 := thr_ge p bias
  have ht2 := thr_le p bias
  have hone := h.one
  have hmono := thr_mono p bias
  have hge2 := thr_ge (p + 1) bias
  have hw := fun d => @weight_ok wt p bias d
  rw [← hteq] at ht ht1 ht2 hone hmono hw ⊢
  have hdm := Nat.div_add_mod (dl - t) (36 - t)
  obtain ⟨a, ha⟩ : ∃ a, a = (dl - t) / (36 - t) := ⟨_, rfl⟩
  obtain ⟨m, hm⟩ : ∃ m, m = (dl - t) % (36 - t) := ⟨_, rfl⟩
  rw [← ha, ← hm] at hdm ⊢
  have e1 : dl = (t + m) + (36 - t) * a := by omega
  have hl := h.left
  have hmul : wt * dl = (t + m) * wt + (wt * (36 - t)) * a := by
    rw [e1, Nat.mul_add, Nat.mul_comm wt (t + m), Nat.mul_assoc]
  have hle : (t + m) * wt ≤ 68000000 := by omega
  refine ⟨hle, hw (t + m) (by rw [Nat.mul_comm]; exact hle) (by omega) hone, ?_, ?_, ?_, by omega, ?_⟩
  · have := h.sum
    rw [Nat.add_assoc, ← hmul]; exact this
  · have := h.ge; omega
  · intro h1
    have t1 : t = 1 := by omega
    rw [hone t1, t1, Nat.add_sub_cancel]
    obtain ⟨p', rfl⟩ : ∃ p', p = p' + 1 := ⟨p - 1, by have := h.p1; omega⟩
    rw [Nat.add_sub_cancel, Nat.pow_succ]
  · exact Nat.mul_pos h.w1 (by omega)

theorem last_none (e : List UInt8) (h : ∀ c ∈ e, c.toNat ≠ 95) : Lib.lastIndexByte ⟨e.toArray⟩ 95 = -1 := by
  unfold Lib.lastIndexByte
  rcases Lib.lastIdx_spec ⟨e.toArray⟩ 95 (⟨e.toArray⟩ : ByteArray).size with ⟨h1, _⟩ | ⟨i, hi, h1, h2, _⟩
  · exact h1
  · exfalso
    have hi' : i < e.length := by simpa [ByteArray.size] using hi
    have := h e[i] (List.getElem_mem hi')
    simp [hi'] at h2
    omega
theorem last_some (p e : List UInt8) (h : ∀ c ∈ e, c.toNat ≠ 95) : Lib.lastIndexByte ⟨(p ++ 95 :: e).toArray⟩ 95 = p.length := by
  unfold Lib.lastIndexByte
  have hsz : (⟨(p ++ 95 :: e).toArray⟩ : ByteArray).size = p.length + (e.length + 1) := by simp [ByteArray.size]
  rcases Lib.lastIdx_spec ⟨(p ++ 95 :: e).toArray⟩ 95 (⟨(p ++ 95 :: e).toArray⟩ : ByteArray).size with ⟨_, h2⟩ | ⟨i, hi, h1, h2, h3⟩
  · exfalso
    have := h2 p.length (by rw [hsz]; omega)
    simp at this
  · rw [h1]
    rw [hsz] at hi h3
    rcases Nat.lt_trichotomy i p.length with hlt | heq | hgt
    · exfalso
      have := h3 p.length hlt (by omega)
      simp at this
    · rw [heq]
    · exfalso
      obtain ⟨j, rfl⟩ : ∃ j, i = p.length + 1 + j := ⟨i - p.length - 1, by omega⟩
      have hj : j < e.length := by omega
      have := h e[j] (List.getElem_mem hj)
      have hx : (p ++ 95 :: e)[p.length + 1 + j]! = e[j] := by
        rw [getElem!_pos _ _ (by simp; omega), List.getElem_append_right (by omega)]
        simp [show p.length + 1 + j - p.length = j + 1 by omega]
      simp [hx] at h2
      omega
theorem letter_ne (c : UInt8) (h : ∃ d, d < 36 ∧ c = letter d) : c.toNat ≠ 95 := by
  obtain ⟨d, hd, rfl⟩ := h
  exact (letter_id d hd).2
set_option maxRecDepth 100000 in
theorem runes_fold (l : List Nat) : ∀ r : ByteArray, ((l.map fun c : Nat => (c : Int)).foldl (fun r n => r ++ Utf8.encode n) r).data.toList = r.data.toList ++ l.flatMap enc8 := by
  induction l with
  | nil => intro r; rw [List.map_nil, List.foldl_nil, List.flatMap_nil, List.append_nil]
  | cons c l ih =>
    intro r
    rw [List.map_cons, List.foldl_cons, ih, ByteArray.data_append, Array.toList_append, List.flatMap_cons, List.append_assoc]
    unfold enc8
    exact Eq.refl _
theorem runes_text (l : List Nat) : runesBytes (l.map fun c : Nat => (c : Int)) = ⟨(l.flatMap enc8).toArray⟩ := by
  have h := runes_fold l ByteArray.empty
  have e0 : ByteArray.empty.data.toList = [] := rfl
  rw [e0, List.nil_append] at h
  unfold runesBytes
  revert h
  generalize (l.map fun c : Nat => (c : Int)).foldl (fun r n => r ++ Utf8.encode n) ByteArray.empty = x
  intro h
  cases x with
  | mk d => rw [← h]
end Go.Proofs.YtdapnoocmpbijaaGreatDoor

/- strconv.FormatUint at base 10. -/
namespace Go.Proofs.YtdapnoocmpbijaaGreatDoor
open Go.RowKit Go.Sort Go.Lib

theorem grow_heap (w : World) (os : Array Obj) (k n : Nat) (h : k < w.heap.size) : (grow (w.drewN n) os).heap[k]? = w.heap[k]? := by
  show (w.heap ++ os)[k]? = _
  rw [Array.getElem?_append_left h]

theorem kept_grow {B : Nat} (w : World) (n : Nat) (os : Array Obj) : Kept B w (grow (w.drewN n) os) :=
  ⟨rfl, rfl, rfl, by show _ ≤ (w.heap ++ os).size; simp, fun k hk _ => grow_heap w os k n hk⟩

theorem At.grow {B b : Nat} {r0 : RS} {w0 w : World} {k txt : List UInt8} {G : Nat → Prop} (h : At B b r0 w0 k txt G w) (n : Nat) (os : Array Obj) : At B b r0 w0 k txt G (Go.Sort.grow (w.drewN n) os) := by
  obtain ⟨o, l, h1, h2, ⟨ad, buf, h3⟩, h4⟩ := h
  refine ⟨o, l, h1, h2, ⟨ad, buf, ?_⟩, h4.trans (kept_grow w n os)⟩
  have hs : w.heap.size ≤ (Go.Sort.grow (w.drewN n) os).heap.size := (kept_grow (B := B) w n os).size
  refine ⟨h3.hB, by have := h3.hw; omega, h3.len, h3.tab.same (fun k hk => grow_heap w os k n (by have := h3.hw; omega)), (grow_heap w os b n h3.rst.lt).trans h3.heap, h3.addr, ?_⟩
  obtain ⟨h5, h6⟩ := h3.own
  refine ⟨h5, ?_⟩
  rcases h6 with h6 | ⟨g, cap, cur, hv, hg, hh, hr⟩
  · exact .inl h6
  · exact .inr ⟨g, cap, cur, hv, hg, (grow_heap w os g n (Array.getElem?_eq_some_iff.1 hh).1).trans hh, hr⟩

set_option maxHeartbeats 6400000 in
set_option maxRecDepth 100000 in
theorem formatUint_any (u : Nat) (hu64 : u < 18446744073709551616) (w : World) (htab : Lib.TabIs Tryz.prog w "internal/strconv.uint64pow10" .u64 Lib.pow10Tab) :
    Calls Tryz.prog 129 #[.int .u64 u, .int .i64 10] w fun e w' => e = .returned (.string (bs (decDigits u))) ∧ ∃ k os, w' = grow (w.drewN k) os := by
  by_cases hs : u < 100
  · go_enter Tryz.func129, Tryz.ntmps129
    go_wp2_with fail
    refine (Tryz.internal_strconv_small u hs _).mono ?_
    rintro e w' ⟨rfl, rfl⟩
    go_wp2_with fail
    go_ret
    exact ⟨rfl, 0, #[], by simp [World.drewN_zero]⟩
  · have hu1 : 1 ≤ u := by omega
    have hnd20 : Lib.nDigits u ≤ 20 := by have := Lib.numDigits_eq u hu1 hu64; split at this <;> omega
    have hal : Tryz.prog.arrayLen 127 = 24 := by kernel_rfl
    have hel : Tryz.prog.elem 127 = tB := by kernel_rfl
    have hsl2 : ∀ W, (Instr.sliceAt 127 (.pointer (some ⟨w.heap.size, 0, none⟩)) none (some (.int .i64 (Lib.nDigits u : Int))) none).run Tryz.prog W = .ok (.slice (some ⟨w.heap.size, 0, none⟩) (Lib.nDigits u) 24) W := fun W => by
      rw [run_sliceAt_array_h W 127 ⟨w.heap.size, 0, none⟩ (by simp [Program.arrayLen, Program.elem, Tryz.underlying127]) .i64 (Lib.nDigits u : Int) (by omega) (by rw [hal]; omega)]
      go_simp
    have hH0 : Holds (fun (b : UInt8) => Value.int .u8 (b.toNat : Int)) (w.alloc (.cells Lib.zeros24 127)) w.heap.size 0 (Array.replicate (Lib.nDigits u) (0 : UInt8)) := fun j hj => by
      have hj' : j < Lib.nDigits u := by simpa using hj
      refine ⟨?_, World.frozen?_alloc_new _ _ _ _⟩
      rw [World.cell?_alloc_new, Lib.zeros24_at _ (by omega), getElem!_pos _ j hj]
      simp
    have hfmt := Tryz.internal_strconv_formatBase10 w.heap.size 0 24 u (Array.replicate (Lib.nDigits u) 0) (w.alloc (.cells Lib.zeros24 127)) hH0 (by rw [Array.size_replicate]; exact Lib.lt_pow_nDigits u) hu64 (by rw [Array.size_replicate]; omega)
    rw [Array.size_replicate] at hfmt
    have HH0 := Lib.hid hH0
    clear hH0 hal hel
    go_enter Tryz.func129, Tryz.ntmps129
    go_wp2_with fail
    refine (Tryz.internal_strconv_numDigits u hu1 hu64 _ (Lib.tabIs_alloc htab _)).mono ?_
    rintro e w' ⟨rfl, rfl⟩
    go_wp2_with fail
    refine hfmt.mono ?_
    rintro e w' ⟨rfl, k, v', dk, rfl, hF⟩
    have hcv : (convert 41 9 (.slice (some ⟨w.heap.size, 0, none⟩) (Lib.nDigits u) 24)).run Tryz.prog ((putRow (fun (b : UInt8) => Value.int .u8 (b.toNat : Int)) (w.alloc (.cells Lib.zeros24 127)) w.heap.size 0 dk).drewN k) = .ok (.string ⟨(Lib.decDigits u).toArray⟩) ((putRow (fun (b : UInt8) => Value.int .u8 (b.toNat : Int)) (w.alloc (.cells Lib.zeros24 127)) w.heap.size 0 dk).drewN k) := by
      have h := run_convert_bytes_back (P := Tryz.prog) ((putRow (fun (b : UInt8) => Value.int .u8 (b.toNat : Int)) (w.alloc (.cells Lib.zeros24 127)) w.heap.size 0 dk).drewN k) 41 9 tB ⟨w.heap.size, 0, none⟩ 24 (Lib.decDigits u) Tryz.underlying41 Tryz.underlying5 Tryz.underlying9 (fun j hj => by
        rw [Lib.row_is_numeral hF j hj, Lib.add_plain, World.cell?_drewN]
        exact cell?_putRow (fun (b : UInt8) => Value.int .u8 (b.toNat : Int)) _ w.heap.size 0 _ dk HH0.out (by rw [hF.size, Array.size_replicate]) j (by rw [hF.size]; rw [Lib.decDigits_length] at hj; exact hj))
      rw [Lib.decDigits_length] at h
      exact h
    go_wp2
    go_ret
    have e1 : ∃ os, (putRow (fun (b : UInt8) => Value.int .u8 (b.toNat : Int)) (w.alloc (.cells Lib.zeros24 127)) w.heap.size 0 dk).drewN k = grow (w.drewN k) os := by
      rw [alloc_eq_grow]
      obtain ⟨os', _, e⟩ := putRow_grow_new (fun (b : UInt8) => Value.int .u8 (b.toNat : Int)) w #[.cells Lib.zeros24 127] w.heap.size 0 dk (Nat.le_refl _)
      exact ⟨os', by rw [e]; rfl⟩
    obtain ⟨os, eo⟩ := e1
    exact ⟨rfl, k, os, eo⟩

set_option maxHeartbeats 1000000 in
theorem FormatUint_any (u : Nat) (hu64 : u < 18446744073709551616) (w : World) (htab : Lib.TabIs Tryz.prog w "internal/strconv.uint64pow10" .u64 Lib.pow10Tab) :
    Calls Tryz.prog 119 #[.int .u64 u, .int .i64 10] w fun e w' => e = .returned (.string (bs (decDigits u))) ∧ ∃ k os, w' = grow (w.drewN k) os := by
  go_enter Tryz.func119, Tryz.ntmps119
  go_wp2_with fail
  refine (formatUint_any u hu64 _ htab).mono ?_
  rintro e w' ⟨rfl, k, os, hw⟩
  have HW := Lib.hid hw
  clear hw
  go_wp2_with fail
  go_ret
  exact ⟨rfl, k, os, HW.out⟩
end Go.Proofs.YtdapnoocmpbijaaGreatDoor

/- Writing into the buffer by itself. -/
namespace Go.Proofs.YtdapnoocmpbijaaGreatDoor
open Go.RowKit
section
variable {B b : Nat} {r0 : RS} {w0 w : World} {k txt : List UInt8} {G : Nat → Prop}
theorem At.bws (t : List UInt8) (h : At B b r0 w0 k txt G w) (hsk : r0.skip = false) (hl : r0.out.length + (txt.length + t.length) ≤ 1000000000) :
    Calls Tryz.prog 72 #[.pointer (some ⟨b, 3, none⟩), .string (bs t)] w fun e w' => e = .returned (.tuple #[.int .i64 t.length, .nilIface]) ∧ At B b r0 w0 k (txt ++ t) T0 w' := by
  obtain ⟨o, l, h1, h2, h3, h4⟩ := h
  have hb := RS.to_len r0 k o l txt
  refine (bWriteString B b _ (bs t) w h3 (by simp; omega)).mono ?_
  rintro e w' ⟨rfl, hr, hk⟩
  refine ⟨by simp, o, l, h1, fun _ => trivial, hr.cast ?_, h4.trans hk⟩
  simp [RS.to, hsk]

theorem At.setLast (n : Nat) (h : At B b r0 w0 k txt G w) : At B b r0 w0 k txt (fun l => l = n) (w.setCell ⟨b, 7, none⟩ (.int .u8 n)) := by
  obtain ⟨o, l, h1, h2, ⟨ad, buf, h3⟩, h4⟩ := h
  refine ⟨o, n, h1, fun _ => rfl, ⟨ad, buf, ?_⟩, h3.keeps h4 7 _⟩
  exact h3.setLast n rfl

theorem At.c7 (h : At B b r0 w0 k txt G w) : ∃ v, w.cell? ⟨b, 7, none⟩ = some v := by
  obtain ⟨_, _, _, _, ⟨ad, buf, h⟩, _⟩ := h; exact ⟨_, h.c7⟩
theorem At.tab (h : At B b r0 w0 k txt G w) : Tabs B w := by
  obtain ⟨_, _, _, _, h, _⟩ := h; exact h.tab
end
end Go.Proofs.YtdapnoocmpbijaaGreatDoor

