/- What a part of the reader says: from one rest of the name to another it writes a text. -/
import Derived.Test.YtlpbhfmhndhbkaaGreatDoorIdent
namespace Go.Proofs.YtlpbhfmhndhbkaaGreatDoor
open Go.RowKit

/-- A box: a block of one cell. -/
def Box (k : Nat) (T : TypeId) (v : Value) (w : World) : Prop := w.heap[k]? = some (.cells #[v] T (0, 0))
theorem Box.lt {k : Nat} {T : TypeId} {v : Value} {w : World} (h : Box k T v w) : k < w.heap.size := (Array.getElem?_eq_some_iff.1 h).1
theorem Box.cell {k : Nat} {T : TypeId} {v : Value} {w : World} (h : Box k T v w) : w.cell? ⟨k, 0, none⟩ = some v := by rw [cellAt h]; rfl
theorem Box.fz {k : Nat} {T : TypeId} {v : Value} {w : World} (h : Box k T v w) : w.frozen? ⟨k, 0, none⟩ = false := Lib.frozen_of_heap h 0
theorem Box.kind {k : Nat} {T : TypeId} {v : Value} {w : World} (h : Box k T v w) : kindOf w.heap[k]? = some T := by unfold Box at h; rw [h]; rfl
theorem Box.kept {B k : Nat} {T : TypeId} {v : Value} {w w' : World} (h : Box k T v w) (hk : Kept B w w') (hT : T ≠ tR ∧ T ≠ tB) : Box k T v w' := by
  unfold Box at h ⊢
  rw [hk.block k (Box.lt h) (.inr (by rw [h]; exact ⟨fun e => hT.1 (Option.some.inj e), fun e => hT.2 (Option.some.inj e)⟩))]
  exact h
theorem Box.new (w : World) (T : TypeId) (v : Value) : Box w.heap.size T v (w.alloc (.cells #[v] T)) := heap_alloc_new w _
theorem Box.alloc {k : Nat} {T : TypeId} {v : Value} {w : World} (h : Box k T v w) (o : Obj) : Box k T v (w.alloc o) := (Below.heap_alloc _ _ _ h.lt).trans h
theorem Box.drew {k : Nat} {T : TypeId} {v : Value} {w : World} (h : Box k T v w) : Box k T v w.drew := h
theorem Box.drewN {k : Nat} {T : TypeId} {v : Value} {w : World} (h : Box k T v w) (n : Nat) : Box k T v (w.drewN n) := h
theorem boxes2 (w : World) (T U : TypeId) (x y : Value) :
    Box w.heap.size T x ((w.alloc (.cells #[x] T)).alloc (.cells #[y] U)) ∧ Box (w.heap.size + 1) U y ((w.alloc (.cells #[x] T)).alloc (.cells #[y] U)) := by
  refine ⟨(Box.new w T x).alloc _, ?_⟩
  have := Box.new (w.alloc (.cells #[x] T)) U y
  simpa using this

/-- The reader as it is behind a part. -/
def RS.to (r : RS) (k : List UInt8) (o : Nat) (txt : List UInt8) (l : Nat) : RS :=
  { r with str := k, off := o, out := if r.skip then r.out else r.out ++ txt, last := l }
theorem RS.to_to (r : RS) (k k' : List UInt8) (o o' l l' : Nat) (t t' : List UInt8) : (r.to k o t l).to k' o' t' l' = r.to k' o' (t ++ t') l' := by
  cases hs : r.skip <;> simp [RS.to, hs]
theorem RS.to_wr (r : RS) (k : List UInt8) (o l : Nat) (t t' : List UInt8) : (r.to k o t l).wr t' = r.to k o (t ++ t') (if r.skip then l else (t'.getLast?.map UInt8.toNat).getD l) := by
  cases hs : r.skip <;> simp [RS.to, RS.wr, hs]
theorem RS.to_len (r : RS) (k : List UInt8) (o l : Nat) (t : List UInt8) : (r.to k o t l).out.length ≤ r.out.length + t.length := by
  cases hs : r.skip <;> simp [RS.to, hs]
@[simp] theorem RS.to_skip (r : RS) (k : List UInt8) (o l : Nat) (t : List UInt8) : (r.to k o t l).skip = r.skip := rfl
@[simp] theorem RS.to_life (r : RS) (k : List UInt8) (o l : Nat) (t : List UInt8) : (r.to k o t l).life = r.life := rfl
@[simp] theorem RS.to_str (r : RS) (k : List UInt8) (o l : Nat) (t : List UInt8) : (r.to k o t l).str = k := rfl
@[simp] theorem RS.to_orig (r : RS) (k : List UInt8) (o l : Nat) (t : List UInt8) : (r.to k o t l).orig = r.orig := rfl
@[simp] theorem RS.to_off (r : RS) (k : List UInt8) (o l : Nat) (t : List UInt8) : (r.to k o t l).off = o := rfl

/-- What r is when it has just moved on. -/
theorem RS.to_nil (r : RS) (k : List UInt8) (o : Nat) : { r with str := k, off := o } = r.to k o [] r.last := by
  cases r with | mk a b c d e f g => cases e <;> simp [RS.to]

theorem adv1 (B b : Nat) (c : UInt8) (k : List UInt8) (r : RS) (w : World) (h : Rst B b r w) (hs : r.str = c :: k) :
    Calls Tryz.prog 51 #[.pointer (some ⟨b, 0, none⟩), .int .i64 1] w fun e w' => e = .returned (.tuple #[]) ∧ Rst B b (r.to k (r.off + 1) [] r.last) w' ∧ Kept B w w' := by
  refine (advance_any B b 1 r w h (by rw [hs]; simp)).mono ?_
  rintro e w' ⟨rfl, hr, hk⟩
  exact ⟨rfl, hr.cast (by rw [← RS.to_nil, hs]; rfl), hk⟩

theorem chk (B b : Nat) (c : UInt8) (n : Int) (k : List UInt8) (r : RS) (w : World) (h : Rst B b r w) (hs : r.str = c :: k) (hn : (c.toNat : Int) = n) :
    Calls Tryz.prog 73 #[.pointer (some ⟨b, 0, none⟩), .int .u8 n] w fun e w' => e = .returned (.tuple #[]) ∧ Rst B b (r.to k (r.off + 1) [] r.last) w' ∧ Kept B w w' := by
  subst hn
  refine (checkChar_ok B b c k r w (h.cast (by cases r; simp_all))).mono ?_
  rintro e w' ⟨rfl, hr, hk⟩
  exact ⟨rfl, hr.cast (by rw [← RS.to_nil]), hk⟩

/-- Behind a part: it has read up to k and written txt; what the last byte is, is good by G. -/
def Post (B b : Nat) (r : RS) (inp k txt : List UInt8) (G : Nat → Prop) (w : World) (e : Ending) (w' : World) : Prop :=
  e = .returned (.tuple #[]) ∧ ∃ o l : Nat, o + k.length = r.off + inp.length ∧ (r.skip = false → G l) ∧ Rst B b (r.to k o txt l) w' ∧ Kept B w w'

/-- A part of the reader, from inp to k: it says txt where lb lifetimes are bound (sk: silently). -/
def Says (f : FuncId) (xs : Array Value) (lb : Nat) (sk : Bool) (inp k txt : List UInt8) (G : Nat → Prop) : Prop :=
  ∀ (B b : Nat) (r : RS) (w : World), Rst B b r w → r.skip = sk → r.life = lb → r.str = inp → (r.skip = false → r.out.length + txt.length ≤ 1000000000) →
    Calls Tryz.prog f (#[.pointer (some ⟨b, 0, none⟩)] ++ xs) w (Post B b r inp k txt G w)

abbrev T0 : Nat → Prop := fun _ => True
abbrev NS : Nat → Prop := fun l => l ≠ 32

/-- Where the reader stands within a part that began at r0, in w0: k is left to read, txt has been written. -/
def At (B b : Nat) (r0 : RS) (w0 : World) (k txt : List UInt8) (G : Nat → Prop) (w : World) : Prop :=
  ∃ o l : Nat, o + k.length = r0.off + r0.str.length ∧ (r0.skip = false → G l) ∧ Rst B b (r0.to k o txt l) w ∧ Kept B w0 w

section
variable {B b : Nat} {r0 : RS} {w0 w : World} {k txt : List UInt8} {G : Nat → Prop}
theorem At.start (h : Rst B b r0 w) : At B b r0 w r0.str [] (fun l => l = r0.last) w :=
  ⟨r0.off, r0.last, rfl, fun _ => rfl, h.cast (by cases r0 with | mk a b c d e f g => cases e <;> simp [RS.to]), Kept.refl B w⟩
theorem At.kept (h : At B b r0 w0 k txt G w) : Kept B w0 w := by obtain ⟨_, _, _, _, _, h⟩ := h; exact h
theorem At.len (h : At B b r0 w0 k txt G w) : r0.off + r0.str.length ≤ 1000000000 ∧ k.length ≤ 1000000000 := by
  obtain ⟨o, l, h1, _, h2, _⟩ := h
  have := h2.len
  simp at this; omega
theorem At.lt (h : At B b r0 w0 k txt G w) : b < w.heap.size := by obtain ⟨_, _, _, _, h, _⟩ := h; exact h.lt
theorem At.c1 (h : At B b r0 w0 k txt G w) : w.cell? ⟨b, 1, none⟩ = some (.string (bs k)) := by
  obtain ⟨_, _, _, _, ⟨ad, buf, h⟩, _⟩ := h; exact h.c1
theorem At.c5 (h : At B b r0 w0 k txt G w) : w.cell? ⟨b, 5, none⟩ = some (.bool r0.skip) := by
  obtain ⟨_, _, _, _, ⟨ad, buf, h⟩, _⟩ := h; exact h.c5
theorem At.c6 (h : At B b r0 w0 k txt G w) : w.cell? ⟨b, 6, none⟩ = some (.int .i64 r0.life) := by
  obtain ⟨_, _, _, _, ⟨ad, buf, h⟩, _⟩ := h; exact h.c6
theorem At.c8 (h : At B b r0 w0 k txt G w) : w.cell? ⟨b, 8, none⟩ = some (.bool false) := by
  obtain ⟨_, _, _, _, ⟨ad, buf, h⟩, _⟩ := h; exact h.c8
theorem At.fz (h : At B b r0 w0 k txt G w) (j : Nat) : w.frozen? ⟨b, j, none⟩ = false := by
  obtain ⟨_, _, _, _, ⟨ad, buf, h⟩, _⟩ := h; exact h.fz j
theorem At.drewN (h : At B b r0 w0 k txt G w) (n : Nat) : At B b r0 w0 k txt G (w.drewN n) := by
  obtain ⟨o, l, h1, h2, h3, h4⟩ := h; exact ⟨o, l, h1, h2, h3.drewN n, h4.drewN n⟩
theorem At.alloc (h : At B b r0 w0 k txt G w) (x : Obj) : At B b r0 w0 k txt G (w.alloc x) := by
  obtain ⟨o, l, h1, h2, h3, h4⟩ := h; exact ⟨o, l, h1, h2, h3.alloc x, h4.alloc x⟩
theorem At.mono {G' : Nat → Prop} (h : At B b r0 w0 k txt G w) (hG : ∀ l, G l → G' l) : At B b r0 w0 k txt G' w := by
  obtain ⟨o, l, h1, h2, h3, h4⟩ := h; exact ⟨o, l, h1, fun e => hG l (h2 e), h3, h4⟩
theorem At.to {k' txt' : List UInt8} (h : At B b r0 w0 k txt G w) (hk : k = k') (ht : txt = txt') : At B b r0 w0 k' txt' G w := by subst hk; subst ht; exact h
theorem At.box {n : Nat} {T : TypeId} {v : Value} (h : At B b r0 w0 k txt G w) (hb : Box n T v w0) (hT : T ≠ tR ∧ T ≠ tB) : w.cell? ⟨n, 0, none⟩ = some v := (hb.kept h.kept hT).cell

theorem At.adv (c : UInt8) (h : At B b r0 w0 (c :: k) txt G w) :
    Calls Tryz.prog 51 #[.pointer (some ⟨b, 0, none⟩), .int .i64 1] w fun e w' => e = .returned (.tuple #[]) ∧ At B b r0 w0 k txt G w' := by
  obtain ⟨o, l, h1, h2, h3, h4⟩ := h
  refine (adv1 B b c k _ w h3 rfl).mono ?_
  rintro e w' ⟨rfl, hr, hk⟩
  rw [RS.to_to, List.append_nil] at hr
  exact ⟨rfl, o + 1, l, by simp at h1; omega, h2, hr, h4.trans hk⟩

theorem At.chk (c : UInt8) (n : Int) (hn : (c.toNat : Int) = n) (h : At B b r0 w0 (c :: k) txt G w) :
    Calls Tryz.prog 73 #[.pointer (some ⟨b, 0, none⟩), .int .u8 n] w fun e w' => e = .returned (.tuple #[]) ∧ At B b r0 w0 k txt G w' := by
  obtain ⟨o, l, h1, h2, h3, h4⟩ := h
  refine (Go.Proofs.YtlpbhfmhndhbkaaGreatDoor.chk B b c n k _ w h3 rfl hn).mono ?_
  rintro e w' ⟨rfl, hr, hk⟩
  rw [RS.to_to, List.append_nil] at hr
  exact ⟨rfl, o + 1, l, by simp at h1; omega, h2, hr, h4.trans hk⟩

theorem At.ws (t : List UInt8) (ht : t ≠ []) (h : At B b r0 w0 k txt G w) (hl : r0.skip = false → r0.out.length + (txt.length + t.length) ≤ 1000000000) :
    Calls Tryz.prog 53 #[.pointer (some ⟨b, 0, none⟩), .string (bs t)] w fun e w' => e = .returned (.tuple #[]) ∧ At B b r0 w0 k (txt ++ t) (fun l => l = (t.getLast ht).toNat) w' := by
  obtain ⟨o, l, h1, h2, h3, h4⟩ := h
  have hb := RS.to_len r0 k o l txt
  refine (writeText B b _ t w h3 (fun e => by have := hl e; omega)).mono ?_
  rintro e w' ⟨rfl, hr, hk⟩
  rw [RS.to_wr] at hr
  refine ⟨rfl, o, _, h1, ?_, hr, h4.trans hk⟩
  intro e
  simp only [e]
  rw [List.getLast?_eq_some_getLast ht]
  rfl

theorem At.ws0 (t : List UInt8) (h : At B b r0 w0 k txt G w) (hl : r0.skip = false → r0.out.length + (txt.length + t.length) ≤ 1000000000) :
    Calls Tryz.prog 53 #[.pointer (some ⟨b, 0, none⟩), .string (bs t)] w fun e w' => e = .returned (.tuple #[]) ∧ At B b r0 w0 k (txt ++ t) (fun _ => True) w' := by
  obtain ⟨o, l, h1, h2, h3, h4⟩ := h
  have hb := RS.to_len r0 k o l txt
  refine (writeText B b _ t w h3 (fun e => by have := hl e; omega)).mono ?_
  rintro e w' ⟨rfl, hr, hk⟩
  rw [RS.to_wr] at hr
  exact ⟨rfl, o, _, h1, fun _ => trivial, hr, h4.trans hk⟩

theorem At.wb (c : UInt8) (n : Int) (hn : (c.toNat : Int) = n) (h : At B b r0 w0 k txt G w) (hl : r0.skip = false → r0.out.length + (txt.length + 1) ≤ 1000000000) :
    Calls Tryz.prog 52 #[.pointer (some ⟨b, 0, none⟩), .int .u8 n] w fun e w' => e = .returned (.tuple #[]) ∧ At B b r0 w0 k (txt ++ [c]) (fun l => l = c.toNat) w' := by
  obtain ⟨o, l, h1, h2, h3, h4⟩ := h
  have hb := RS.to_len r0 k o l txt
  refine (writeByteN B b _ c n w h3 hn (fun e => by have := hl e; omega)).mono ?_
  rintro e w' ⟨rfl, hr, hk⟩
  rw [RS.to_wr] at hr
  refine ⟨rfl, o, _, h1, ?_, hr, h4.trans hk⟩
  intro e
  simp [e]

theorem At.says {f : FuncId} {xs : Array Value} {lb : Nat} {sk : Bool} {k' t : List UInt8} {G' : Nat → Prop} (hf : Says f xs lb sk k k' t G') (h : At B b r0 w0 k txt G w) (hs : r0.skip = sk) (hb : r0.life = lb)
    (hl : r0.skip = false → r0.out.length + (txt.length + t.length) ≤ 1000000000) :
    Calls Tryz.prog f (#[.pointer (some ⟨b, 0, none⟩)] ++ xs) w fun e w' => e = .returned (.tuple #[]) ∧ At B b r0 w0 k' (txt ++ t) G' w' := by
  obtain ⟨o, l, h1, h2, h3, h4⟩ := h
  have hb2 := RS.to_len r0 k o l txt
  refine (hf B b _ w h3 hs hb rfl (fun e => by have := hl e; omega)).mono ?_
  rintro e w' ⟨rfl, o', l', ho, hG, hr, hk⟩
  rw [RS.to_to] at hr
  exact ⟨rfl, o', l', by simp at ho; omega, hG, hr, h4.trans hk⟩

theorem At.post {inp : List UInt8} {w1 : World} (h : At B b r0 w0 k txt G w) (hi : r0.str = inp) (h0 : Kept B w1 w0) : Post B b r0 inp k txt G w1 (.returned (.tuple #[])) w := by
  obtain ⟨o, l, h1, h2, h3, h4⟩ := h
  exact ⟨rfl, o, l, by rw [← hi]; exact h1, h2, h3, h0.trans h4⟩
end

/-- identifier: it gives a disambiguator and a name. -/
def Names (inp k : List UInt8) (n : Nat) (name : List UInt8) : Prop :=
  ∀ (B b : Nat) (r0 : RS) (w0 w : World) (txt : List UInt8) (G : Nat → Prop), At B b r0 w0 inp txt G w →
    Calls Tryz.prog 94 #[.pointer (some ⟨b, 0, none⟩)] w fun e w' => e = .returned (.tuple #[.int .i64 n, .string (bs name)]) ∧ At B b r0 w0 k txt G w'

/-- undisambiguatedIdentifier: likewise. -/
def Undis (inp k name : List UInt8) (puny : Bool) : Prop :=
  ∀ (B b : Nat) (r0 : RS) (w0 w : World) (txt : List UInt8) (G : Nat → Prop), At B b r0 w0 inp txt G w →
    Calls Tryz.prog 112 #[.pointer (some ⟨b, 0, none⟩)] w fun e w' => e = .returned (.tuple #[.string (bs name), .bool puny]) ∧ At B b r0 w0 k txt G w'

/-- A call that only reads on. -/
theorem At.moved {B b : Nat} {r0 : RS} {w0 w w' : World} {k k' txt : List UInt8} {G : Nat → Prop} {o l o' : Nat} (h1 : o + k.length = r0.off + r0.str.length) (h2 : r0.skip = false → G l) (h4 : Kept B w0 w) (ho : o' + k'.length = o + k.length)
    (hr : Rst B b { r0.to k o txt l with str := k', off := o' } w') (hk : Kept B w w') : At B b r0 w0 k' txt G w' :=
  ⟨o', l, by omega, h2, hr.cast rfl, h4.trans hk⟩

theorem undis_mk (n : Nat) (ds sep t : List UInt8) (hne : ds ≠ []) (hd : ∀ c ∈ ds, is10 c)
    (hf : f10 ds 0 = n) (hb : IdAt t n) (hn : n ≤ t.length) (hbl : n ≤ 1000000) (hsep : SepOk sep t) : Undis (ds ++ (sep ++ t)) (t.drop n) (t.take n) false := by
  intro B b r0 w0 w txt G h
  obtain ⟨o, l, h1, h2, h3, h4⟩ := h
  refine (undis_plain B b n ds sep t (r0.to (ds ++ (sep ++ t)) o txt l) w (h3.cast rfl) hne hd hf hb hn hbl hsep).mono ?_
  rintro e w' ⟨rfl, hr, hk⟩
  exact ⟨rfl, At.moved h1 h2 h4 (by simp; omega) hr hk⟩

theorem At.base62 {B b : Nat} {r0 : RS} {w0 w : World} {txt : List UInt8} {G : Nat → Prop} (n : Nat) (k : List UInt8) (hn : n ≤ 4611686018427387904) (h : At B b r0 w0 (b62 n ++ k) txt G w) :
    Calls Tryz.prog 74 #[.pointer (some ⟨b, 0, none⟩)] w fun e w' => e = .returned (.int .i64 n) ∧ At B b r0 w0 k txt G w' := by
  obtain ⟨o, l, h1, h2, h3, h4⟩ := h
  refine (base62_any B b n k (r0.to (b62 n ++ k) o txt l) w (h3.cast rfl) hn).mono ?_
  rintro e w' ⟨rfl, hr, hk⟩
  exact ⟨rfl, At.moved h1 h2 h4 (by simp; omega) hr hk⟩

theorem At.disamb {B b : Nat} {r0 : RS} {w0 w : World} {txt : List UInt8} {G : Nat → Prop} (n : Nat) (k : List UInt8) (hn : n ≤ 4611686018427387904) (hr0 : ∃ c l, k = c :: l ∧ c.toNat ≠ 115) (h : At B b r0 w0 (dis n ++ k) txt G w) :
    Calls Tryz.prog 111 #[.pointer (some ⟨b, 0, none⟩)] w fun e w' => e = .returned (.int .i64 n) ∧ At B b r0 w0 k txt G w' := by
  obtain ⟨o, l, h1, h2, h3, h4⟩ := h
  refine (disamb_any B b n k (r0.to (dis n ++ k) o txt l) w (h3.cast rfl) hn hr0).mono ?_
  rintro e w' ⟨rfl, hr, hk⟩
  exact ⟨rfl, At.moved h1 h2 h4 (by simp; omega) hr hk⟩

set_option maxHeartbeats 1000000 in
theorem names_mk (n : Nat) (inp k name : List UInt8) (p : Bool) (h : Undis inp k name p) (hn : n ≤ 4611686018427387904) (h0 : ∃ c l, inp = c :: l ∧ c.toNat ≠ 115) : Names (dis n ++ inp) k n name := by
  intro B b r0 w0 w txt G hr
  have H0 := Lib.hid h0
  clear h0
  go_enter Tryz.func94, Tryz.ntmps94
  go_wp2_with fail
  refine (hr.disamb n inp hn H0.out).mono ?_
  rintro e w1 ⟨rfl, hr1⟩
  go_wp2_with fail
  refine (h B b _ _ _ _ _ hr1).mono ?_
  rintro e w2 ⟨rfl, hr2⟩
  go_wp2_with fail
  go_ret2
  exact ⟨rfl, hr2⟩
end Go.Proofs.YtlpbhfmhndhbkaaGreatDoor
