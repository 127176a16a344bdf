/- What the writing of a tree begins with, and how long it is. Plain. -/
import Derived.Test.YtidokamjbglkbaaGreatDoorY04
import Derived.Test.YtidokamjbglkbaaGreatDoorY02
import Derived.Deep.LoopGhost
namespace Go.Proofs.YtidokamjbglkbaaGreatDoor

/-- A letter that begins a path. -/
def pathHd (c : UInt8) : Prop := c.toNat = 67 ∨ c.toNat = 77 ∨ c.toNat = 88 ∨ c.toNat = 89 ∨ c.toNat = 78 ∨ c.toNat = 73
/-- A letter that begins a type. -/
def typeHd (c : UInt8) : Prop := pathHd c ∨ c.toNat = 65 ∨ c.toNat = 83 ∨ c.toNat = 84 ∨ c.toNat = 82 ∨ c.toNat = 81 ∨ c.toNat = 80 ∨ c.toNat = 79 ∨ c.toNat = 70 ∨ c.toNat = 68 ∨ (97 ≤ c.toNat ∧ c.toNat ≤ 122)
/-- A letter. -/
def letHd (c : UInt8) : Prop := (65 ≤ c.toNat ∧ c.toNat ≤ 90) ∨ (97 ≤ c.toNat ∧ c.toNat ≤ 122)
theorem pathHd.type {c : UInt8} (h : pathHd c) : typeHd c := .inl h
theorem typeHd.let {c : UInt8} (h : typeHd c) : letHd c := by unfold typeHd pathHd at h; unfold letHd; omega

theorem basic_low {c : Nat} (h : basicText c ≠ []) : 97 ≤ c ∧ c ≤ 122 := by
  refine Classical.byContradiction fun hn => h ?_
  unfold basicText
  simp only [show c ≠ 97 by omega, show c ≠ 98 by omega, show c ≠ 99 by omega, show c ≠ 100 by omega, show c ≠ 101 by omega, show c ≠ 102 by omega, show c ≠ 104 by omega, show c ≠ 105 by omega, show c ≠ 106 by omega, show c ≠ 108 by omega,
    show c ≠ 109 by omega, show c ≠ 110 by omega, show c ≠ 111 by omega, show c ≠ 112 by omega, show c ≠ 115 by omega, show c ≠ 116 by omega, show c ≠ 117 by omega, show c ≠ 118 by omega, show c ≠ 120 by omega, show c ≠ 121 by omega, show c ≠ 122 by omega, if_false]

theorem kind_low {K : Nat} {c : UInt8} {n : Nat} {fl : Bool} (h : KindOk K c n fl) : 97 ≤ c.toNat ∧ c.toNat ≤ 122 := by
  unfold KindOk isSg isUn at h
  omega

/-- What is known of the first letter. -/
structure HdOk (t : RT) (c : UInt8) (l : List UInt8) : Prop where
  lt : letHd c
  path : isPathK t.kd → pathHd c
  type : isTypeK t.kd → typeHd c
  u : isTypeK t.kd → c.toNat = 117 → t.kd = 7 ∧ t.c = c ∧ l = []

variable {idw : List UInt8 → List UInt8}
theorem path_head {b : Nat} {t : RT} (h : Rt b t) (hk : isPathK t.kd) : ∃ c l, enc idw t = c :: l ∧ pathHd c := by
  cases h with
  | crate => exact ⟨67, _, by simp only [enc]; rfl, by unfold pathHd; decide⟩
  | impl => exact ⟨77, _, by simp only [enc]; rfl, by unfold pathHd; decide⟩
  | timpl => exact ⟨88, _, by simp only [enc]; rfl, by unfold pathHd; decide⟩
  | tdef => exact ⟨89, _, by simp only [enc]; rfl, by unfold pathHd; decide⟩
  | nested => exact ⟨78, _, by simp only [enc]; rfl, by unfold pathHd; decide⟩
  | gen => exact ⟨73, _, by simp only [enc]; rfl, by unfold pathHd; decide⟩
  | arr => exact absurd (show isPathK 8 from hk) (by decide)
  | slice => exact absurd (show isPathK 9 from hk) (by decide)
  | tuple => exact absurd (show isPathK 10 from hk) (by decide)
  | ref => exact absurd (show isPathK 11 from hk) (by decide)
  | «mut» => exact absurd (show isPathK 12 from hk) (by decide)
  | cptr => exact absurd (show isPathK 13 from hk) (by decide)
  | mptr => exact absurd (show isPathK 14 from hk) (by decide)
  | fn => exact absurd (show isPathK 15 from hk) (by decide)
  | dyn => exact absurd (show isPathK 16 from hk) (by decide)
  | basic => exact absurd (show isPathK 7 from hk) (by decide)
  | bound => exact absurd (show isPathK 17 from hk) (by decide)
  | num => exact absurd (show isPathK 20 from hk) (by decide)
  | binding => exact absurd (show isPathK 18 from hk) (by decide)
  | life => exact absurd (show isPathK 19 from hk) (by decide)
  | hole => exact absurd (show isPathK 21 from hk) (by decide)
/-- The writing of a right tree begins with a letter: of a path, of a type .. -/
theorem enc_head {b : Nat} {t : RT} (h : Rt b t) : ∃ c l, enc idw t = c :: l ∧ HdOk t c l := by
  cases h with
  | crate => exact ⟨67, _, by simp only [enc]; rfl, by unfold letHd; decide, fun _ => by unfold pathHd; decide, fun _ => .inl (by unfold pathHd; decide), fun _ h => absurd h (by decide)⟩
  | impl => exact ⟨77, _, by simp only [enc]; rfl, by unfold letHd; decide, fun _ => by unfold pathHd; decide, fun _ => .inl (by unfold pathHd; decide), fun _ h => absurd h (by decide)⟩
  | timpl => exact ⟨88, _, by simp only [enc]; rfl, by unfold letHd; decide, fun _ => by unfold pathHd; decide, fun _ => .inl (by unfold pathHd; decide), fun _ h => absurd h (by decide)⟩
  | tdef => exact ⟨89, _, by simp only [enc]; rfl, by unfold letHd; decide, fun _ => by unfold pathHd; decide, fun _ => .inl (by unfold pathHd; decide), fun _ h => absurd h (by decide)⟩
  | nested => exact ⟨78, _, by simp only [enc]; rfl, by unfold letHd; decide, fun _ => by unfold pathHd; decide, fun _ => .inl (by unfold pathHd; decide), fun _ h => absurd h (by decide)⟩
  | gen => exact ⟨73, _, by simp only [enc]; rfl, by unfold letHd; decide, fun _ => by unfold pathHd; decide, fun _ => .inl (by unfold pathHd; decide), fun _ h => absurd h (by decide)⟩
  | arr => exact ⟨65, _, by simp only [enc]; rfl, by unfold letHd; decide, fun h => absurd (show isPathK 8 from h) (by decide), fun _ => .inr (by decide), fun _ h => absurd h (by decide)⟩
  | slice => exact ⟨83, _, by simp only [enc]; rfl, by unfold letHd; decide, fun h => absurd (show isPathK 9 from h) (by decide), fun _ => .inr (by decide), fun _ h => absurd h (by decide)⟩
  | tuple => exact ⟨84, _, by simp only [enc]; rfl, by unfold letHd; decide, fun h => absurd (show isPathK 10 from h) (by decide), fun _ => .inr (by decide), fun _ h => absurd h (by decide)⟩
  | ref => exact ⟨82, _, by simp only [enc]; rfl, by unfold letHd; decide, fun h => absurd (show isPathK 11 from h) (by decide), fun _ => .inr (by decide), fun _ h => absurd h (by decide)⟩
  | «mut» => exact ⟨81, _, by simp only [enc]; rfl, by unfold letHd; decide, fun h => absurd (show isPathK 12 from h) (by decide), fun _ => .inr (by decide), fun _ h => absurd h (by decide)⟩
  | cptr => exact ⟨80, _, by simp only [enc]; rfl, by unfold letHd; decide, fun h => absurd (show isPathK 13 from h) (by decide), fun _ => .inr (by decide), fun _ h => absurd h (by decide)⟩
  | mptr => exact ⟨79, _, by simp only [enc]; rfl, by unfold letHd; decide, fun h => absurd (show isPathK 14 from h) (by decide), fun _ => .inr (by decide), fun _ h => absurd h (by decide)⟩
  | fn => exact ⟨70, _, by simp only [enc]; rfl, by unfold letHd; decide, fun h => absurd (show isPathK 15 from h) (by decide), fun _ => .inr (by decide), fun _ h => absurd h (by decide)⟩
  | dyn => exact ⟨68, _, by simp only [enc]; rfl, by unfold letHd; decide, fun h => absurd (show isPathK 16 from h) (by decide), fun _ => .inr (by decide), fun _ h => absurd h (by decide)⟩
  | basic _ c nm n fl hc =>
    have := basic_low hc
    exact ⟨c, [], by simp only [enc]; rfl, .inr this, fun h => absurd (show isPathK 7 from h) (by decide), fun _ => by unfold typeHd; omega, fun _ _ => ⟨rfl, rfl, rfl⟩⟩
  | bound _ c nm n fl p bd hp kp hb kb =>
    obtain ⟨c', l', e, h'⟩ := path_head hp kp
    exact ⟨c', _, by simp only [enc, encs]; rw [e]; rfl, h'.type.let, fun h => absurd (show isPathK 17 from h) (by decide), fun h => absurd (show isTypeK 17 from h) (by decide), fun h => absurd (show isTypeK 17 from h) (by decide)⟩
  | num _ c nm n fl K hK hn =>
    exact ⟨c, _, by simp only [enc]; rfl, .inr (kind_low hK), fun h => absurd (show isPathK 20 from h) (by decide), fun h => absurd (show isTypeK 20 from h) (by decide), fun h => absurd (show isTypeK 20 from h) (by decide)⟩
  | binding => exact ⟨112, _, by simp only [enc]; rfl, by unfold letHd; decide, fun h => absurd (show isPathK 18 from h) (by decide), fun h => absurd (show isTypeK 18 from h) (by decide), fun h => absurd (show isTypeK 18 from h) (by decide)⟩
  | life => exact ⟨76, _, by simp only [enc]; rfl, by unfold letHd; decide, fun h => absurd (show isPathK 19 from h) (by decide), fun h => absurd (show isTypeK 19 from h) (by decide), fun h => absurd (show isTypeK 19 from h) (by decide)⟩
  | hole => exact ⟨112, _, by simp only [enc]; rfl, by unfold letHd; decide, fun h => absurd (show isPathK 21 from h) (by decide), fun h => absurd (show isTypeK 21 from h) (by decide), fun h => absurd (show isTypeK 21 from h) (by decide)⟩
end Go.Proofs.YtidokamjbglkbaaGreatDoor

/- Lists of right trees: plain facts. -/
namespace Go.Proofs.YtidokamjbglkbaaGreatDoor

variable {idw : List UInt8 → List UInt8}
theorem encsE_snoc (ps : List RT) (r : RT) : encsE idw (ps ++ [r]) = encs idw ps ++ (69 :: enc idw r) := by
  induction ps with
  | nil => simp only [List.nil_append, encsE, encs]
  | cons p ps ih =>
    cases ps with
    | nil => simp only [List.cons_append, List.nil_append, encsE, encs, List.append_nil]
    | cons q ps =>
      rw [List.cons_append, List.cons_append, encsE, ← List.cons_append, ih]
      simp [encs]
theorem bndsE_snoc (ps : List RT) (r : RT) : ∀ off lb : Nat, bndsE idw off lb (ps ++ [r]) = bndsL idw off lb ps ++ bnds idw (off + (encs idw ps).length + 1) lb r := by
  induction ps with
  | nil => intro off lb; simp only [List.nil_append, bndsE, bndsL, encs, List.length_nil, Nat.add_zero]
  | cons p ps ih =>
    intro off lb
    cases ps with
    | nil => simp only [List.cons_append, List.nil_append, bndsE, bndsL, encs, List.append_nil]
    | cons q ps =>
      rw [List.cons_append, List.cons_append, bndsE, ← List.cons_append, ih]
      simp [encs, bndsL, Nat.add_assoc]
theorem empL_snoc (ps : List RT) (r : RT) : empL (ps ++ [r]) = emp r := by
  induction ps with
  | nil => simp only [List.nil_append, empL]
  | cons p ps ih =>
    cases ps with
    | nil => simp only [List.cons_append, List.nil_append, empL]
    | cons q ps => rw [List.cons_append, List.cons_append, empL, ← List.cons_append, ih]
theorem empL_one (r : RT) : empL [r] = emp r := by simp only [empL]
theorem sizes_append (ps qs : List RT) : sizes (ps ++ qs) = sizes ps + sizes qs := by
  induction ps with
  | nil => simp only [List.nil_append, sizes, Nat.zero_add]
  | cons p ps ih => rw [List.cons_append, sizes, ih, sizes, Nat.add_assoc]
theorem size_mem {ps : List RT} {t : RT} (h : t ∈ ps) : size t ≤ sizes ps := by
  induction ps with
  | nil => cases h
  | cons p ps ih =>
    rw [sizes]
    rcases List.mem_cons.1 h with rfl | h
    · omega
    · have := ih h; omega
theorem len_sizes (ps : List RT) : ps.length ≤ sizes ps := by
  induction ps with
  | nil => simp [sizes]
  | cons p ps ih => rw [sizes]; have := size_pos p; simp; omega
theorem txtsT_len (lb : Nat) (ps : List RT) : (txtsT lb ps).length = ps.length := by
  induction ps with
  | nil => simp [txtsT]
  | cons p ps ih => simp [txtsT, ih]
theorem txtsT_append (lb : Nat) (ps qs : List RT) : txtsT lb (ps ++ qs) = txtsT lb ps ++ txtsT lb qs := by
  induction ps with
  | nil => simp [txtsT]
  | cons p ps ih => simp [txtsT, ih]
theorem txts_append (m : Md) (lb : Nat) (ps qs : List RT) : txts m lb (ps ++ qs) = txts m lb ps ++ txts m lb qs := by
  induction ps with
  | nil => simp [txts]
  | cons p ps ih => simp [txts, ih]
/-- A path, as a type or by itself. -/
theorem txt_path_t (lb : Nat) (t : RT) (h : isPathK t.kd) : txt .t lb t = txt (.p false) lb t := by
  cases t with
  | mk kd c nm n fl ks =>
    have hk : kd = 1 ∨ kd = 2 ∨ kd = 3 ∨ kd = 4 ∨ kd = 5 ∨ kd = 6 := by have : isPathK kd := h; unfold isPathK at this; omega
    rcases hk with rfl | rfl | rfl | rfl | rfl | rfl <;> simp [txt, Md.sep]
theorem txt_path_s (lb : Nat) (t : RT) (h : isPathK t.kd) (h6 : t.kd ≠ 6) : txt .s lb t = txt (.p false) lb t := by
  cases t with
  | mk kd c nm n fl ks =>
    have hk : kd = 1 ∨ kd = 2 ∨ kd = 3 ∨ kd = 4 ∨ kd = 5 := by have : isPathK kd := h; have h' : kd ≠ 6 := h6; unfold isPathK at this; omega
    rcases hk with rfl | rfl | rfl | rfl | rfl <;> simp [txt, Md.sep]

/-- No digit and no underscore is a letter. -/
theorem sep_let {c : UInt8} {l : List UInt8} (h : letHd c) : SepOk [] (c :: l) := by
  unfold letHd at h
  refine .inr ⟨rfl, ?_, ?_⟩
  · intro x hx
    simp at hx; subst hx
    unfold is10; omega
  · intro x hx
    simp at hx; subst hx
    omega
/-- What may follow a tree that is followed by a letter. -/
theorem sep_if {e : Bool} {c : UInt8} {l : List UInt8} (h : letHd c) : if e = true then SepOk [] (c :: l) else ([] : List UInt8) = [] := by
  split
  · exact sep_let h
  · rfl
theorem encs_head {b : Nat} {ts : List RT} (h : ∀ t ∈ ts, Rt b t) (k : List UInt8) : ∃ c l, encs idw ts ++ (69 :: k) = c :: l ∧ letHd c := by
  cases ts with
  | nil => exact ⟨69, k, by simp only [encs, List.nil_append], by unfold letHd; decide⟩
  | cons t ts =>
    obtain ⟨c, l, e, h'⟩ := enc_head (idw := idw) (h t (by simp))
    exact ⟨c, _, by rw [encs, e]; rfl, h'.lt⟩
theorem encsA_head {b : Nat} {ts : List RT} (h : ∀ t ∈ ts, Rt b t) (k : List UInt8) : ∃ c l, encsA idw ts ++ (69 :: k) = c :: l ∧ letHd c := by
  cases ts with
  | nil => exact ⟨69, k, by simp only [encsA, List.nil_append], by unfold letHd; decide⟩
  | cons t ts =>
    obtain ⟨c, l, e, h'⟩ := enc_head (idw := idw) (h t (by simp))
    unfold encsA argMark
    split
    · exact ⟨75, _, rfl, by unfold letHd; decide⟩
    · exact ⟨c, _, by rw [e]; rfl, h'.lt⟩
end Go.Proofs.YtidokamjbglkbaaGreatDoor

/- The look at trees: what each part of it answers, for whatever tree; how kids are read. -/
namespace Go.Proofs.YtidokamjbglkbaaGreatDoor
open Go.RowKit

/-- A kid lies at o in block kb, with these cells. -/
structure KidW (M B : Nat) (p : RT) (kb o : Nat) (kd : Int) (c : UInt8) (nm : List UInt8) (n : Nat) (fl : Bool) (ks : Value) (w : World) : Prop where
  lt : kb < B
  k0 : w.cell? ⟨kb, o, none⟩ = some (.int .i64 kd)
  k1 : w.cell? ⟨kb, o + 1, none⟩ = some (.int .u8 c.toNat)
  k2 : w.cell? ⟨kb, o + 2, none⟩ = some (.string (bs nm))
  k3 : w.cell? ⟨kb, o + 3, none⟩ = some (.int .u64 n)
  k4 : w.cell? ⟨kb, o + 4, none⟩ = some (.bool fl)
  k5 : w.cell? ⟨kb, o + 5, none⟩ = some ks
  tr : TreeAt M B w (rv kd c nm n fl ks) p

theorem KidW.keep {M B : Nat} {p : RT} {kb o : Nat} {kd : Int} {c : UInt8} {nm : List UInt8} {n : Nat} {fl : Bool} {ks : Value} {w w' : World} (h : KidW M B p kb o kd c nm n fl ks w) (hs : ∀ k, k < B → w'.heap[k]? = w.heap[k]?) : KidW M B p kb o kd c nm n fl ks w' := by
  have e : ∀ j, w'.cell? ⟨kb, j, none⟩ = w.cell? ⟨kb, j, none⟩ := fun j => by simp only [World.cell?, hs kb h.lt]
  exact ⟨h.lt, by rw [e]; exact h.k0, by rw [e]; exact h.k1, by rw [e]; exact h.k2, by rw [e]; exact h.k3, by rw [e]; exact h.k4, by rw [e]; exact h.k5, h.tr.mono (Nat.le_refl _) hs⟩

theorem TreeAt.inv {M N : Nat} {w : World} {v : Array Value} {t : RT} (h : TreeAt M N w v t) : ∃ (kd : Int) (c : UInt8) (nm : List UInt8) (n : Nat) (fl : Bool) (a : Option Addr) (m cap : Nat), v = rv kd c nm n fl (.slice a m cap) ∧ t.kd = kd ∧ t.nm = nm := by
  cases h with
  | mk kd c nm n fl a m cap V ks hn hk hc hnm hV hT => exact ⟨kd, c, nm, n, fl, a, m, cap, rfl, rfl, rfl⟩

/-- A kid of a tree. -/
theorem kid_of {M B : Nat} {w : World} {a : Option Addr} {m : Nat} {V : Nat → Array Value} {ks : List RT} (hk : ks.length = m) (hV : KidsIn B w a m V) (hT : ∀ i (h : i < ks.length), TreeAt M B w (V i) ks[i]) (i : Nat) (h : i < ks.length) :
    ∃ kb off kd c nm n fl ka km kc, a = some ⟨kb, off, none⟩ ∧ KidW M B ks[i] kb (off + i * 6) kd c nm n fl (.slice ka km kc) w := by
  obtain ⟨kb, off, ha, hlt, hc⟩ := hV (by omega)
  obtain ⟨kd, c, nm, n, fl, ka, km, kc, e, _⟩ := (hT i h).inv
  have hci := (hc i (by omega)).2
  rw [e] at hci
  have ht := hT i h
  rw [e] at ht
  exact ⟨kb, off, kd, c, nm, n, fl, ka, km, kc, ha, hlt, hci 0 (by decide), hci 1 (by decide), hci 2 (by decide), hci 3 (by decide), hci 4 (by decide), hci 5 (by decide), ht⟩

/-- A part of the look has answered: yes only if Q, and then n pieces fewer are left. -/
def LkP (Q : Prop) (n left B b : Nat) (w : World) (e : Ending) (w' : World) : Prop := ∃ (bl : Bool) (l : Int), e = .returned (.bool bl) ∧ (bl = true → Q ∧ n ≤ left ∧ l = (left : Int) - n) ∧ Lk b l w' ∧ KeptM ML B w w'
theorem LkP.no {Q : Prop} {n left B b : Nat} {w w' : World} {l : Int} (h2 : Lk b l w') (h3 : KeptM ML B w w') : LkP Q n left B b w (.returned (.bool false)) w' := ⟨false, l, rfl, (fun h => by cases h), h2, h3⟩
theorem LkP.yes {Q : Prop} {n left B b : Nat} {w w' : World} (hq : Q) (hn : n ≤ left) (h2 : Lk b ((left : Int) - n) w') (h3 : KeptM ML B w w') : LkP Q n left B b w (.returned (.bool true)) w' := ⟨true, _, rfl, fun _ => ⟨hq, hn, rfl⟩, h2, h3⟩
theorem LkP.imp {Q Q' : Prop} {n n' left B b : Nat} {w w0 : World} {e : Ending} {w' : World} (h : LkP Q n left B b w e w') (hq : Q → Q') (hn : n = n') (k : KeptM ML B w0 w) : LkP Q' n' left B b w0 e w' := by
  obtain ⟨bl, l, h1, h2, h3, h4⟩ := h
  subst hn
  exact ⟨bl, l, h1, fun hb => ⟨hq (h2 hb).1, (h2 hb).2⟩, h3, k.trans h4⟩

/-- piece, at a tree. -/
def PieceC (t : RT) : Prop := ∀ (M B b want deep bound left : Nat) (w : World) (kd : Int) (c : UInt8) (nm : List UInt8) (n : Nat) (fl : Bool) (ks : Value), M ≤ 2147483647 → TreeAt M B w (rv kd c nm n fl ks) t → Tabs B w → B ≤ b → B ≤ w.heap.size → Lk b left w → left ≤ 300 → want ≤ 5 → deep ≤ 24 → bound ≤ 20 →
  Calls Tryz.prog 26 #[.pointer (some ⟨b, 0, none⟩), .agg (rv kd c nm n fl ks), .int .i64 want, .int .i64 deep, .int .i64 bound] w (LkP (Rt bound t ∧ fitsK t.kd want) (size t) left B b w)

theorem KeptM.same {M : List TypeId} {B : Nat} {w w' : World} (h : KeptM M B w w') (hB : B ≤ w.heap.size) : ∀ k, k < B → w'.heap[k]? = w.heap[k]? := fun k hk => h.block k (by omega) (.inl hk)
theorem KidW.piece {M B b : Nat} {p : RT} {kb o : Nat} {kd : Int} {c : UInt8} {nm : List UInt8} {n : Nat} {fl : Bool} {ks : Value} {w : World} (h : KidW M B p kb o kd c nm n fl ks w) (hp : PieceC p) (hM : M ≤ 2147483647) (ht : Tabs B w) (hB : B ≤ b) (hw : B ≤ w.heap.size) {left want deep bound : Nat} (hl : Lk b left w) (h1 : left ≤ 300)
    (h2 : want ≤ 5) (h3 : deep ≤ 24) (h4 : bound ≤ 20) :
    Calls Tryz.prog 26 #[.pointer (some ⟨b, 0, none⟩), .agg (rv kd c nm n fl ks), .int .i64 want, .int .i64 deep, .int .i64 bound] w (LkP (Rt bound p ∧ fitsK p.kd want) (size p) left B b w) :=
  hp M B b want deep bound left w kd c nm n fl ks hM h.tr ht hB hw hl h1 h2 h3 h4

/-- The state of a look within a part that began in w0. -/
structure LkS (M B b : Nat) (w0 : World) (l : Int) (w : World) : Prop where
  look : Lk b l w
  kept : KeptM ML B w0 w
  tabs : Tabs B w
  hw : B ≤ w.heap.size
theorem LkS.alloc {M B b : Nat} {w0 w : World} {l : Int} (h : LkS M B b w0 l w) (o : Obj) : LkS M B b w0 l (w.alloc o) :=
  ⟨h.look.alloc o, h.kept.alloc o, h.tabs.same fun k hk => Below.heap_alloc _ _ _ (by have := h.hw; omega), by have := h.hw; simp; omega⟩
theorem LkS.step {M B b : Nat} {w0 w w' : World} {l l' : Int} (h : LkS M B b w0 l w) (k : KeptM ML B w w') (hl : Lk b l' w') : LkS M B b w0 l' w' :=
  ⟨hl, h.kept.trans k, h.tabs.same (k.same h.hw), Nat.le_trans h.hw k.size⟩
theorem LkS.same {M B b : Nat} {w0 w : World} {l : Int} (h : LkS M B b w0 l w) (hB : B ≤ w0.heap.size) : ∀ k, k < B → w.heap[k]? = w0.heap[k]? := h.kept.same hB

/-- ... with the tree's own box. -/
structure LkX (M B b : Nat) (cs : Array Value) (w0 : World) (l : Int) (w : World) : Prop where
  base : LkS M B b w0 l w
  box : w.heap[w0.heap.size]? = some (.cells cs tRu (0, 0))
theorem tree_new' (w : World) (cs : Array Value) (T : TypeId) : (w.alloc (.cells cs T)).heap[w.heap.size]? = some (.cells cs T (0, 0)) := heap_alloc_new w _
theorem LkX.start {M B b : Nat} {w : World} {l : Int} (cs : Array Value) (hl : Lk b l w) (ht : Tabs B w) (hw : B ≤ w.heap.size) : LkX M B b cs w l (w.alloc (.cells cs tRu)) :=
  ⟨(LkS.mk hl (KeptM.refl w) ht hw : LkS M B b w l w).alloc _, tree_new' w cs tRu⟩
theorem LkX.lt {M B b : Nat} {cs : Array Value} {w0 w : World} {l : Int} (h : LkX M B b cs w0 l w) : w0.heap.size < w.heap.size := (Array.getElem?_eq_some_iff.1 h.box).1
theorem LkX.step {M B b : Nat} {cs : Array Value} {w0 w w' : World} {l l' : Int} (h : LkX M B b cs w0 l w) (k : KeptM ML B w w') (hl : Lk b l' w') : LkX M B b cs w0 l' w' :=
  ⟨h.base.step k hl, (k.block _ h.lt (.inr fun t ht => by rw [h.box]; simp [kindOf] at ht ⊢; subst ht; decide)).trans h.box⟩
theorem LkX.below {M B b : Nat} {cs : Array Value} {w0 w w' : World} {l : Int} (h : LkX M B b cs w0 l w) (k : Below w.heap.size w w') : LkX M B b cs w0 l w' :=
  h.step (KeptM.of_below k) ((k.block _ h.base.look.lt).trans h.base.look)
theorem LkX.alloc {M B b : Nat} {cs : Array Value} {w0 w : World} {l : Int} (h : LkX M B b cs w0 l w) (o : Obj) : LkX M B b cs w0 l (w.alloc o) :=
  ⟨h.base.alloc o, (Below.heap_alloc _ _ _ h.lt).trans h.box⟩
theorem LkX.cells {M B b : Nat} {kd : Int} {c : UInt8} {nm : List UInt8} {n : Nat} {fl : Bool} {ks : Value} {w0 w : World} {l : Int} (h : LkX M B b (rv kd c nm n fl ks) w0 l w) :
    w.cell? ⟨w0.heap.size, 0, none⟩ = some (.int .i64 kd) ∧ w.cell? ⟨w0.heap.size, 1, none⟩ = some (.int .u8 c.toNat) ∧ w.cell? ⟨w0.heap.size, 2, none⟩ = some (.string (bs nm)) ∧ w.cell? ⟨w0.heap.size, 3, none⟩ = some (.int .u64 n) ∧
      w.cell? ⟨w0.heap.size, 4, none⟩ = some (.bool fl) ∧ w.cell? ⟨w0.heap.size, 5, none⟩ = some ks := by
  refine ⟨?_, ?_, ?_, ?_, ?_, ?_⟩ <;> (rw [cellAt h.box]; rfl)
theorem LkX.same {M B b : Nat} {cs : Array Value} {w0 w : World} {l : Int} (h : LkX M B b cs w0 l w) (hB : B ≤ w0.heap.size) : ∀ k, k < B → w.heap[k]? = w0.heap[k]? := h.base.same hB
theorem LkX.cast {M B b : Nat} {cs : Array Value} {w0 w : World} {l l' : Int} (h : LkX M B b cs w0 l w) (e : l = l') : LkX M B b cs w0 l' w := e ▸ h
/-- A kid's cells, wherever the look goes on. -/
theorem KidW.cells {M B b : Nat} {cs : Array Value} {w0 : World} {p : RT} {kb o : Nat} {kd : Int} {c : UInt8} {nm : List UInt8} {n : Nat} {fl : Bool} {ks : Value} (K : KidW M B p kb o kd c nm n fl ks w0) (hw : B ≤ w0.heap.size) {w : World} {l : Int} (h : LkX M B b cs w0 l w) :
    w.cell? ⟨kb, o, none⟩ = some (.int .i64 kd) ∧ w.cell? ⟨kb, o + 1, none⟩ = some (.int .u8 c.toNat) ∧ w.cell? ⟨kb, o + 2, none⟩ = some (.string (bs nm)) ∧ w.cell? ⟨kb, o + 3, none⟩ = some (.int .u64 n) ∧
      w.cell? ⟨kb, o + 4, none⟩ = some (.bool fl) ∧ w.cell? ⟨kb, o + 5, none⟩ = some ks := by
  have K := K.keep (h.same hw)
  exact ⟨K.k0, K.k1, K.k2, K.k3, K.k4, K.k5⟩
/-- piece at a kid, wherever the look goes on. -/
theorem KidW.call {M B b : Nat} {cs : Array Value} {w0 : World} {p : RT} {kb o : Nat} {kd : Int} {c : UInt8} {nm : List UInt8} {n : Nat} {fl : Bool} {ks : Value} (K : KidW M B p kb o kd c nm n fl ks w0) (hw : B ≤ w0.heap.size) (hp : PieceC p) (hM : M ≤ 2147483647) (hB : B ≤ b)
    {want deep bound : Nat} (h2 : want ≤ 5) (h3 : deep ≤ 24) (h4 : bound ≤ 20) (w : World) (l : Nat) (h : LkX M B b cs w0 l w) (hl : l ≤ 300) :
    Calls Tryz.prog 26 #[.pointer (some ⟨b, 0, none⟩), .agg (rv kd c nm n fl ks), .int .i64 want, .int .i64 deep, .int .i64 bound] w (LkP (Rt bound p ∧ fitsK p.kd want) (size p) l B b w) :=
  (K.keep (h.same hw)).piece hp hM h.base.tabs hB h.base.hw h.base.look hl h2 h3 h4
theorem LkP.fin {Q Q' : Prop} {n n' left l0 B b : Nat} {w0 w : World} {e : Ending} {w' : World} (h : LkP Q' n' l0 B b w e w') (hq : Q' → Q ∧ n' + (left - l0) = n ∧ l0 ≤ left) (k : KeptM ML B w0 w) : LkP Q n left B b w0 e w' := by
  obtain ⟨bl, l, h1, h2, h3, h4⟩ := h
  refine ⟨bl, l, h1, fun hb => ?_, h3, k.trans h4⟩
  obtain ⟨h5, h6, h7⟩ := h2 hb
  obtain ⟨h8, h9, h10⟩ := hq h5
  exact ⟨h8, by omega, by omega⟩
/-- ... with another tree's box behind it. -/
structure LkY (M B b : Nat) (cs cs2 : Array Value) (w0 : World) (l : Int) (w : World) : Prop where
  base : LkX M B b cs w0 l w
  box2 : w.heap[w0.heap.size + 1]? = some (.cells cs2 tRu (0, 0))
theorem LkY.start {M B b : Nat} {cs : Array Value} {w : World} {l : Int} (h : LkX M B b cs w l (w.alloc (.cells cs tRu))) (cs2 : Array Value) : LkY M B b cs cs2 w l ((w.alloc (.cells cs tRu)).alloc (.cells cs2 tRu)) :=
  ⟨h.alloc _, by have := tree_new' (w.alloc (.cells cs tRu)) cs2 tRu; simpa using this⟩
theorem LkY.lt {M B b : Nat} {cs cs2 : Array Value} {w0 w : World} {l : Int} (h : LkY M B b cs cs2 w0 l w) : w0.heap.size + 1 < w.heap.size := (Array.getElem?_eq_some_iff.1 h.box2).1
theorem LkY.step {M B b : Nat} {cs cs2 : Array Value} {w0 w w' : World} {l l' : Int} (h : LkY M B b cs cs2 w0 l w) (k : KeptM ML B w w') (hl : Lk b l' w') : LkY M B b cs cs2 w0 l' w' :=
  ⟨h.base.step k hl, (k.block _ h.lt (.inr fun t ht => by rw [h.box2]; simp [kindOf] at ht ⊢; subst ht; decide)).trans h.box2⟩
theorem LkY.below {M B b : Nat} {cs cs2 : Array Value} {w0 w w' : World} {l : Int} (h : LkY M B b cs cs2 w0 l w) (k : Below w.heap.size w w') : LkY M B b cs cs2 w0 l w' :=
  ⟨h.base.below k, (k.block _ h.lt).trans h.box2⟩
theorem LkY.cast {M B b : Nat} {cs cs2 : Array Value} {w0 w : World} {l l' : Int} (h : LkY M B b cs cs2 w0 l w) (e : l = l') : LkY M B b cs cs2 w0 l' w := e ▸ h
theorem LkY.cells2 {M B b : Nat} {cs : Array Value} {kd : Int} {c : UInt8} {nm : List UInt8} {n : Nat} {fl : Bool} {ks : Value} {w0 w : World} {l : Int} (h : LkY M B b cs (rv kd c nm n fl ks) w0 l w) :
    w.cell? ⟨w0.heap.size + 1, 0, none⟩ = some (.int .i64 kd) ∧ w.cell? ⟨w0.heap.size + 1, 1, none⟩ = some (.int .u8 c.toNat) ∧ w.cell? ⟨w0.heap.size + 1, 2, none⟩ = some (.string (bs nm)) ∧ w.cell? ⟨w0.heap.size + 1, 3, none⟩ = some (.int .u64 n) ∧
      w.cell? ⟨w0.heap.size + 1, 4, none⟩ = some (.bool fl) ∧ w.cell? ⟨w0.heap.size + 1, 5, none⟩ = some ks := by
  refine ⟨?_, ?_, ?_, ?_, ?_, ?_⟩ <;> (rw [cellAt h.box2]; rfl)
theorem TreeAt.shape {M N : Nat} {w : World} {kd : Int} {c : UInt8} {nm : List UInt8} {n : Nat} {fl : Bool} {a : Option Addr} {m cap : Nat} {t : RT} (h : TreeAt M N w (rv kd c nm n fl (.slice a m cap)) t) : t.kd = kd ∧ t.ks.length = m := by
  generalize hv : rv kd c nm n fl (.slice a m cap) = v at h
  cases h with
  | mk kd' c' nm' n' fl' a' m' cap' V ks hn hk hc hnm hV hT =>
    have h0 := congrArg (fun x => x[0]?) hv
    have h5 := congrArg (fun x => x[5]?) hv
    simp at h0 h5
    exact ⟨h0.symm, by rw [h5.2.1]; exact hk⟩
theorem LkP.no' {Q : Prop} {n left B b : Nat} {cs : Array Value} {M : Nat} {w0 w : World} {l : Int} (h : LkX M B b cs w0 l w) : LkP Q n left B b w0 (.returned (.bool false)) w := LkP.no h.base.look h.base.kept
end Go.Proofs.YtidokamjbglkbaaGreatDoor

/- The look at a list of trees. -/
namespace Go.Proofs.YtidokamjbglkbaaGreatDoor
open Go.RowKit

set_option maxHeartbeats 2000000 in
set_option maxRecDepth 100000 in
theorem all_any (M B b want deep bound left : Nat) (w : World) (a : Option Addr) (m cap : Nat) (V : Nat → Array Value) (ks : List RT) (hk : ks.length = m) (hV : KidsIn B w a m V) (hT : ∀ i (h : i < ks.length), TreeAt M B w (V i) ks[i]) (hP : ∀ x ∈ ks, PieceC x)
    (hM : M ≤ 2147483647) (hm : m ≤ M) (ht : Tabs B w) (hB : B ≤ b) (hw : B ≤ w.heap.size) (hl : Lk b left w) (h1 : left ≤ 300) (h2 : want ≤ 5) (h3 : deep ≤ 24) (h4 : bound ≤ 20) :
    Calls Tryz.prog 46 #[.pointer (some ⟨b, 0, none⟩), .slice a m cap, .int .i64 want, .int .i64 deep, .int .i64 bound] w (LkP (∀ x ∈ ks, Rt bound x ∧ fitsK x.kd want) (sizes ks) left B b w) := by
  have HS := Lib.hid (LkS.mk hl (KeptM.refl w) ht hw : LkS M B b w left w)
  have HK := Lib.hid (fun i h => kid_of hk hV hT i h)
  have hmx : m ≤ 9223372036854775807 := by omega
  clear hV hT ht hl
  go_enter Tryz.func46, Tryz.ntmps46
  go_wp2_with fail
  go_loopg [12, 15] m (fun n _ i wr => ∃ j : Nat, n = m - j ∧ j ≤ m ∧ i = .int .i64 j ∧ (∀ x ∈ ks.take j, Rt bound x ∧ fitsK x.kd want) ∧ sizes (ks.take j) ≤ left ∧ LkS M B b w ((left : Int) - (sizes (ks.take j) : Nat)) wr)
  case atStart => exact ⟨0, by omega, Nat.zero_le _, rfl, by simp, by simp [sizes], by simpa [sizes] using HS.out⟩
  case round =>
    obtain ⟨j, rfl, hj, rfl, hq, hs, S⟩ := hrel
    by_cases hlt : j < m
    · obtain ⟨kb, off, kd1, c1, nm1, n1, fl1, ka1, km1, kc1, rfl, K⟩ := HK.out j (by omega)
      have K1 := K.keep (S.same hw)
      obtain ⟨_, k0, k1, k2, k3, k4, k5, _⟩ := K1
      have S1 := S.alloc (.cells (rv kd1 c1 nm1 n1 fl1 (.slice ka1 km1 kc1)) tRu)
      have e1 : ((left : Int) - (sizes (ks.take j) : Nat)) = ((left - sizes (ks.take j) : Nat) : Int) := by omega
      rw [e1] at S1
      have HC := Lib.hid ((K.keep (S1.same hw)).piece (hP _ (List.getElem_mem (by omega))) hM S1.tabs hB S1.hw S1.look (show left - sizes (ks.take j) ≤ 300 by omega) h2 h3 h4)
      have HS1 := Lib.hid S1
      have HQ := Lib.hid hq
      have HSZ := Lib.hid hs
      clear S1 S K hq e1
      go_wp2_with fail
      refine HC.out.mono ?_
      rintro e w1 ⟨bl, l, rfl, hb, hl1, kk⟩
      have S2 := HS1.out.step kk hl1
      clear kk HC
      cases bl with
      | false =>
        clear hb
        go_wp2
        go_ret
        exact LkP.no S2.look S2.kept
      | true =>
        obtain ⟨hq1, hn1, rfl⟩ := hb rfl
        have HQ1 := Lib.hid hq1
        have hsz : sizes (ks.take (j + 1)) = sizes (ks.take j) + size ks[j] := by rw [List.take_succ_eq_append_getElem (by omega), sizes_append]; simp [sizes]
        clear hq1
        go_wp2_with fail
        go_roundg (m - (j + 1))
        case measure => omega
        case rel =>
          refine ⟨j + 1, rfl, by omega, by go_num, ?_, by omega, ?_⟩
          · intro x hx
            rw [List.take_succ_eq_append_getElem (by omega)] at hx
            rcases List.mem_append.1 hx with hx | hx
            · exact HQ.out x hx
            · simp at hx; subst hx; exact HQ1.out
          · have e2 : ((left : Int) - (sizes (ks.take (j + 1)) : Nat)) = ((left - sizes (ks.take j) : Nat) : Int) - (size ks[j] : Nat) := by omega
            rw [e2]; exact S2
    · have hjm : j = m := by omega
      subst hjm
      have HQ := Lib.hid hq
      have HSZ := Lib.hid hs
      clear hq hs
      go_wp2_with fail
      go_ret
      have e3 : ks.take ks.length = ks := List.take_length
      have hq := HQ.out
      have hs := HSZ.out
      have S' := S
      rw [← hk, e3] at hq hs S'
      exact LkP.yes hq hs S'.look S'.kept
theorem kids_tail {B : Nat} {w : World} {kb off m : Nat} {V : Nat → Array Value} (h : KidsIn B w (some ⟨kb, off, none⟩) m V) (hm : 1 ≤ m) : KidsIn B w (some ⟨kb, off + 6, none⟩) (m - 1) fun i => V (i + 1) := by
  intro h0
  obtain ⟨b, o, e, hlt, hc⟩ := h (by omega)
  simp only [Option.some.injEq, Addr.mk.injEq, and_true] at e
  obtain ⟨rfl, rfl⟩ := e
  refine ⟨kb, off + 6, rfl, hlt, fun i hi => ⟨(hc (i + 1) (by omega)).1, fun j hj => ?_⟩⟩
  rw [← (hc (i + 1) (by omega)).2 j hj]
  congr 2; omega
theorem kids_init {B : Nat} {w : World} {a : Option Addr} {m m' : Nat} {V : Nat → Array Value} (h : KidsIn B w a m V) (hm : m' ≤ m) : KidsIn B w a m' V := by
  intro h0
  obtain ⟨b, o, e, hlt, hc⟩ := h (by omega)
  exact ⟨b, o, e, hlt, fun i hi => hc i (by omega)⟩
theorem trees_tail {M B : Nat} {w : World} {V : Nat → Array Value} {k : RT} {ks : List RT} (h : ∀ i (hi : i < (k :: ks).length), TreeAt M B w (V i) (k :: ks)[i]) : ∀ i (hi : i < ks.length), TreeAt M B w (V (i + 1)) ks[i] := by
  intro i hi
  have := h (i + 1) (by simp; omega)
  simpa using this
theorem trees_init {M B : Nat} {w : World} {V : Nat → Array Value} {ks : List RT} {x : RT} (h : ∀ i (hi : i < (ks ++ [x]).length), TreeAt M B w (V i) (ks ++ [x])[i]) : ∀ i (hi : i < ks.length), TreeAt M B w (V i) ks[i] := by
  intro i hi
  have := h i (by simp; omega)
  rwa [List.getElem_append_left hi] at this
/-- all, wherever the look goes on. -/
theorem all_call {M B b : Nat} {cs : Array Value} {w0 : World} {want deep bound : Nat} {a : Option Addr} {m : Nat} (cap : Nat) {V : Nat → Array Value} {ks : List RT} (hk : ks.length = m) (hV : KidsIn B w0 a m V) (hT : ∀ i (h : i < ks.length), TreeAt M B w0 (V i) ks[i]) (hP : ∀ x ∈ ks, PieceC x)
    (hM : M ≤ 2147483647) (hm : m ≤ M) (hB : B ≤ b) (hw : B ≤ w0.heap.size) (h2 : want ≤ 5) (h3 : deep ≤ 24) (h4 : bound ≤ 20) (w : World) (l : Nat) (h : LkX M B b cs w0 l w) (hl : l ≤ 300) :
    Calls Tryz.prog 46 #[.pointer (some ⟨b, 0, none⟩), .slice a m cap, .int .i64 want, .int .i64 deep, .int .i64 bound] w (LkP (∀ x ∈ ks, Rt bound x ∧ fitsK x.kd want) (sizes ks) l B b w) :=
  all_any M B b want deep bound l w a m cap V ks hk (hV.mono (Nat.le_refl _) (h.same hw)) (fun i hi => (hT i hi).mono (Nat.le_refl _) (h.same hw)) hP hM hm h.base.tabs hB h.base.hw h.base.look hl h2 h3 h4
end Go.Proofs.YtidokamjbglkbaaGreatDoor

