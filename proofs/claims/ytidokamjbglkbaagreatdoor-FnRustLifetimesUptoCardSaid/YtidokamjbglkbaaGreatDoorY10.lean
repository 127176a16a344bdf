/- What a part of the reader says: from one rest of the name to another it writes a text. -/
import Derived.Test.YtidokamjbglkbaaGreatDoorY09
import Derived.Test.YtidokamjbglkbaaGreatDoorY01
import Derived.Test.YtidokamjbglkbaaGreatDoorY08
import Derived.Lib.UnsafeStr
import Derived.Lib.SlicesS
import Derived.Defers
import Derived.Recover
import Derived.Test.YtidokamjbglkbaaGreatDoorShelf
namespace Go.Proofs.YtidokamjbglkbaaGreatDoor
open Go.RowKit

/-- A box: a block of one cell. -/
def Box (k : Nat) (T : TypeId) (v : Value) (w : World) : Prop := w.heap[k]? = some (.cells #[v] T (0, 0))
theorem Box.lt {k : Nat} {T : TypeId} {v : Value} {w : World} (h : Box k T v w) : k < w.heap.size := (Array.getElem?_eq_some_iff.1 h).1
theorem Box.cell {k : Nat} {T : TypeId} {v : Value} {w : World} (h : Box k T v w) : w.cell? ⟨k, 0, none⟩ = some v := by rw [cellAt h]; rfl
theorem Box.fz {k : Nat} {T : TypeId} {v : Value} {w : World} (h : Box k T v w) : w.frozen? ⟨k, 0, none⟩ = false := Lib.frozen_of_heap h 0
theorem Box.kind {k : Nat} {T : TypeId} {v : Value} {w : World} (h : Box k T v w) : kindOf w.heap[k]? = some T := by unfold Box at h; rw [h]; rfl
theorem Box.kept {B k : Nat} {T : TypeId} {v : Value} {w w' : World} (h : Box k T v w) (hk : Kept B w w') (hT : T ≠ tR ∧ T ≠ tB) : Box k T v w' := by
  unfold Box at h ⊢
  rw [hk.block k (Box.lt h) (.inr (by rw [h]; exact ⟨fun e => hT.1 (Option.some.inj e), fun e => hT.2 (Option.some.inj e)⟩))]
  exact h
theorem Box.new (w : World) (T : TypeId) (v : Value) : Box w.heap.size T v (w.alloc (.cells #[v] T)) := heap_alloc_new w _
theorem Box.alloc {k : Nat} {T : TypeId} {v : Value} {w : World} (h : Box k T v w) (o : Obj) : Box k T v (w.alloc o) := (Below.heap_alloc _ _ _ h.lt).trans h
theorem Box.drew {k : Nat} {T : TypeId} {v : Value} {w : World} (h : Box k T v w) : Box k T v w.drew := h
theorem Box.drewN {k : Nat} {T : TypeId} {v : Value} {w : World} (h : Box k T v w) (n : Nat) : Box k T v (w.drewN n) := h
theorem boxes2 (w : World) (T U : TypeId) (x y : Value) :
    Box w.heap.size T x ((w.alloc (.cells #[x] T)).alloc (.cells #[y] U)) ∧ Box (w.heap.size + 1) U y ((w.alloc (.cells #[x] T)).alloc (.cells #[y] U)) := by
  refine ⟨(Box.new w T x).alloc _, ?_⟩
  have := Box.new (w.alloc (.cells #[x] T)) U y
  simpa using this

/-- The reader as it is behind a part. -/
def RS.to (r : RS) (k : List UInt8) (o : Nat) (txt : List UInt8) (l : Nat) : RS :=
  { r with str := k, off := o, out := if r.skip then r.out else r.out ++ txt, last := l }
theorem RS.to_to (r : RS) (k k' : List UInt8) (o o' l l' : Nat) (t t' : List UInt8) : (r.to k o t l).to k' o' t' l' = r.to k' o' (t ++ t') l' := by
  cases hs : r.skip <;> simp [RS.to, hs]
theorem RS.to_wr (r : RS) (k : List UInt8) (o l : Nat) (t t' : List UInt8) : (r.to k o t l).wr t' = r.to k o (t ++ t') (if r.skip then l else (t'.getLast?.map UInt8.toNat).getD l) := by
  cases hs : r.skip <;> simp [RS.to, RS.wr, hs]
theorem RS.to_len (r : RS) (k : List UInt8) (o l : Nat) (t : List UInt8) : (r.to k o t l).out.length ≤ r.out.length + t.length := by
  cases hs : r.skip <;> simp [RS.to, hs]
@[simp] theorem RS.to_skip (r : RS) (k : List UInt8) (o l : Nat) (t : List UInt8) : (r.to k o t l).skip = r.skip := rfl
@[simp] theorem RS.to_life (r : RS) (k : List UInt8) (o l : Nat) (t : List UInt8) : (r.to k o t l).life = r.life := rfl
@[simp] theorem RS.to_str (r : RS) (k : List UInt8) (o l : Nat) (t : List UInt8) : (r.to k o t l).str = k := rfl
@[simp] theorem RS.to_orig (r : RS) (k : List UInt8) (o l : Nat) (t : List UInt8) : (r.to k o t l).orig = r.orig := rfl
@[simp] theorem RS.to_off (r : RS) (k : List UInt8) (o l : Nat) (t : List UInt8) : (r.to k o t l).off = o := rfl

/-- What r is when it has just moved on. -/
theorem RS.to_nil (r : RS) (k : List UInt8) (o : Nat) : { r with str := k, off := o } = r.to k o [] r.last := by
  cases r with | mk a b c d e f g => cases e <;> simp [RS.to]

theorem adv1 (B b : Nat) (c : UInt8) (k : List UInt8) (r : RS) (w : World) (h : Rst B b r w) (hs : r.str = c :: k) :
    Calls Tryz.prog 83 #[.pointer (some ⟨b, 0, none⟩), .int .i64 1] w fun e w' => e = .returned (.tuple #[]) ∧ Rst B b (r.to k (r.off + 1) [] r.last) w' ∧ Kept B w w' := by
  refine (advance_any B b 1 r w h (by rw [hs]; simp)).mono ?_
  rintro e w' ⟨rfl, hr, hk⟩
  exact ⟨rfl, hr.cast (by rw [← RS.to_nil, hs]; rfl), hk⟩

theorem chk (B b : Nat) (c : UInt8) (n : Int) (k : List UInt8) (r : RS) (w : World) (h : Rst B b r w) (hs : r.str = c :: k) (hn : (c.toNat : Int) = n) :
    Calls Tryz.prog 89 #[.pointer (some ⟨b, 0, none⟩), .int .u8 n] w fun e w' => e = .returned (.tuple #[]) ∧ Rst B b (r.to k (r.off + 1) [] r.last) w' ∧ Kept B w w' := by
  subst hn
  refine (checkChar_ok B b c k r w (h.cast (by cases r; simp_all))).mono ?_
  rintro e w' ⟨rfl, hr, hk⟩
  exact ⟨rfl, hr.cast (by rw [← RS.to_nil]), hk⟩

/-- Behind a part: it has read up to k and written txt; what the last byte is, is good by G. -/
def Post (B b : Nat) (r : RS) (inp k txt : List UInt8) (G : Nat → Prop) (w : World) (e : Ending) (w' : World) : Prop :=
  e = .returned (.tuple #[]) ∧ ∃ o l : Nat, o + k.length = r.off + inp.length ∧ (r.skip = false → G l) ∧ Rst B b (r.to k o txt l) w' ∧ Kept B w w'

/-- A part of the reader, from inp to k: it says txt where lb lifetimes are bound (sk: silently). -/
def Says (f : FuncId) (xs : Array Value) (lb : Nat) (sk : Bool) (inp k txt : List UInt8) (G : Nat → Prop) : Prop :=
  ∀ (B b : Nat) (r : RS) (w : World), Rst B b r w → r.skip = sk → r.life = lb → r.str = inp → (r.skip = false → r.out.length + txt.length ≤ 1000000000) →
    Calls Tryz.prog f (#[.pointer (some ⟨b, 0, none⟩)] ++ xs) w (Post B b r inp k txt G w)

abbrev T0 : Nat → Prop := fun _ => True
abbrev NS : Nat → Prop := fun l => l ≠ 32

/-- Where the reader stands within a part that began at r0, in w0: k is left to read, txt has been written. -/
def At (B b : Nat) (r0 : RS) (w0 : World) (k txt : List UInt8) (G : Nat → Prop) (w : World) : Prop :=
  ∃ o l : Nat, o + k.length = r0.off + r0.str.length ∧ (r0.skip = false → G l) ∧ Rst B b (r0.to k o txt l) w ∧ Kept B w0 w

section
variable {B b : Nat} {r0 : RS} {w0 w : World} {k txt : List UInt8} {G : Nat → Prop}
theorem At.start (h : Rst B b r0 w) : At B b r0 w r0.str [] (fun l => l = r0.last) w :=
  ⟨r0.off, r0.last, rfl, fun _ => rfl, h.cast (by cases r0 with | mk a b c d e f g => cases e <;> simp [RS.to]), Kept.refl B w⟩
theorem At.kept (h : At B b r0 w0 k txt G w) : Kept B w0 w := by obtain ⟨_, _, _, _, _, h⟩ := h; exact h
theorem At.len (h : At B b r0 w0 k txt G w) : r0.off + r0.str.length ≤ 1000000000 ∧ k.length ≤ 1000000000 := by
  obtain ⟨o, l, h1, _, h2, _⟩ := h
  have := h2.len
  simp at this; omega
theorem At.lt (h : At B b r0 w0 k txt G w) : b < w.heap.size := by obtain ⟨_, _, _, _, h, _⟩ := h; exact h.lt
theorem At.c1 (h : At B b r0 w0 k txt G w) : w.cell? ⟨b, 1, none⟩ = some (.string (bs k)) := by
  obtain ⟨_, _, _, _, ⟨ad, buf, h⟩, _⟩ := h; exact h.c1
theorem At.c5 (h : At B b r0 w0 k txt G w) : w.cell? ⟨b, 5, none⟩ = some (.bool r0.skip) := by
  obtain ⟨_, _, _, _, ⟨ad, buf, h⟩, _⟩ := h; exact h.c5
theorem At.c6 (h : At B b r0 w0 k txt G w) : w.cell? ⟨b, 6, none⟩ = some (.int .i64 r0.life) := by
  obtain ⟨_, _, _, _, ⟨ad, buf, h⟩, _⟩ := h; exact h.c6
theorem At.c8 (h : At B b r0 w0 k txt G w) : w.cell? ⟨b, 8, none⟩ = some (.bool false) := by
  obtain ⟨_, _, _, _, ⟨ad, buf, h⟩, _⟩ := h; exact h.c8
theorem At.fz (h : At B b r0 w0 k txt G w) (j : Nat) : w.frozen? ⟨b, j, none⟩ = false := by
  obtain ⟨_, _, _, _, ⟨ad, buf, h⟩, _⟩ := h; exact h.fz j
theorem At.drewN (h : At B b r0 w0 k txt G w) (n : Nat) : At B b r0 w0 k txt G (w.drewN n) := by
  obtain ⟨o, l, h1, h2, h3, h4⟩ := h; exact ⟨o, l, h1, h2, h3.drewN n, h4.drewN n⟩
theorem At.alloc (h : At B b r0 w0 k txt G w) (x : Obj) : At B b r0 w0 k txt G (w.alloc x) := by
  obtain ⟨o, l, h1, h2, h3, h4⟩ := h; exact ⟨o, l, h1, h2, h3.alloc x, h4.alloc x⟩
theorem At.mono {G' : Nat → Prop} (h : At B b r0 w0 k txt G w) (hG : ∀ l, G l → G' l) : At B b r0 w0 k txt G' w := by
  obtain ⟨o, l, h1, h2, h3, h4⟩ := h; exact ⟨o, l, h1, fun e => hG l (h2 e), h3, h4⟩
theorem At.to {k' txt' : List UInt8} (h : At B b r0 w0 k txt G w) (hk : k = k') (ht : txt = txt') : At B b r0 w0 k' txt' G w := by subst hk; subst ht; exact h
theorem At.box {n : Nat} {T : TypeId} {v : Value} (h : At B b r0 w0 k txt G w) (hb : Box n T v w0) (hT : T ≠ tR ∧ T ≠ tB) : w.cell? ⟨n, 0, none⟩ = some v := (hb.kept h.kept hT).cell

theorem At.adv (c : UInt8) (h : At B b r0 w0 (c :: k) txt G w) :
    Calls Tryz.prog 83 #[.pointer (some ⟨b, 0, none⟩), .int .i64 1] w fun e w' => e = .returned (.tuple #[]) ∧ At B b r0 w0 k txt G w' := by
  obtain ⟨o, l, h1, h2, h3, h4⟩ := h
  refine (adv1 B b c k _ w h3 rfl).mono ?_
  rintro e w' ⟨rfl, hr, hk⟩
  rw [RS.to_to, List.append_nil] at hr
  exact ⟨rfl, o + 1, l, by simp at h1; omega, h2, hr, h4.trans hk⟩

theorem At.chk (c : UInt8) (n : Int) (hn : (c.toNat : Int) = n) (h : At B b r0 w0 (c :: k) txt G w) :
    Calls Tryz.prog 89 #[.pointer (some ⟨b, 0, none⟩), .int .u8 n] w fun e w' => e = .returned (.tuple #[]) ∧ At B b r0 w0 k txt G w' := by
  obtain ⟨o, l, h1, h2, h3, h4⟩ := h
  refine (Go.Proofs.YtidokamjbglkbaaGreatDoor.chk B b c n k _ w h3 rfl hn).mono ?_
  rintro e w' ⟨rfl, hr, hk⟩
  rw [RS.to_to, List.append_nil] at hr
  exact ⟨rfl, o + 1, l, by simp at h1; omega, h2, hr, h4.trans hk⟩

theorem At.ws (t : List UInt8) (ht : t ≠ []) (h : At B b r0 w0 k txt G w) (hl : r0.skip = false → r0.out.length + (txt.length + t.length) ≤ 1000000000) :
    Calls Tryz.prog 58 #[.pointer (some ⟨b, 0, none⟩), .string (bs t)] w fun e w' => e = .returned (.tuple #[]) ∧ At B b r0 w0 k (txt ++ t) (fun l => l = (t.getLast ht).toNat) w' := by
  obtain ⟨o, l, h1, h2, h3, h4⟩ := h
  have hb := RS.to_len r0 k o l txt
  refine (writeText B b _ t w h3 (fun e => by have := hl e; omega)).mono ?_
  rintro e w' ⟨rfl, hr, hk⟩
  rw [RS.to_wr] at hr
  refine ⟨rfl, o, _, h1, ?_, hr, h4.trans hk⟩
  intro e
  simp only [e]
  rw [List.getLast?_eq_some_getLast ht]
  rfl

theorem At.ws0 (t : List UInt8) (h : At B b r0 w0 k txt G w) (hl : r0.skip = false → r0.out.length + (txt.length + t.length) ≤ 1000000000) :
    Calls Tryz.prog 58 #[.pointer (some ⟨b, 0, none⟩), .string (bs t)] w fun e w' => e = .returned (.tuple #[]) ∧ At B b r0 w0 k (txt ++ t) (fun _ => True) w' := by
  obtain ⟨o, l, h1, h2, h3, h4⟩ := h
  have hb := RS.to_len r0 k o l txt
  refine (writeText B b _ t w h3 (fun e => by have := hl e; omega)).mono ?_
  rintro e w' ⟨rfl, hr, hk⟩
  rw [RS.to_wr] at hr
  exact ⟨rfl, o, _, h1, fun _ => trivial, hr, h4.trans hk⟩

theorem At.wb (c : UInt8) (n : Int) (hn : (c.toNat : Int) = n) (h : At B b r0 w0 k txt G w) (hl : r0.skip = false → r0.out.length + (txt.length + 1) ≤ 1000000000) :
    Calls Tryz.prog 59 #[.pointer (some ⟨b, 0, none⟩), .int .u8 n] w fun e w' => e = .returned (.tuple #[]) ∧ At B b r0 w0 k (txt ++ [c]) (fun l => l = c.toNat) w' := by
  obtain ⟨o, l, h1, h2, h3, h4⟩ := h
  have hb := RS.to_len r0 k o l txt
  refine (writeByteN B b _ c n w h3 hn (fun e => by have := hl e; omega)).mono ?_
  rintro e w' ⟨rfl, hr, hk⟩
  rw [RS.to_wr] at hr
  refine ⟨rfl, o, _, h1, ?_, hr, h4.trans hk⟩
  intro e
  simp [e]

theorem At.says {f : FuncId} {xs : Array Value} {lb : Nat} {sk : Bool} {k' t : List UInt8} {G' : Nat → Prop} (hf : Says f xs lb sk k k' t G') (h : At B b r0 w0 k txt G w) (hs : r0.skip = sk) (hb : r0.life = lb)
    (hl : r0.skip = false → r0.out.length + (txt.length + t.length) ≤ 1000000000) :
    Calls Tryz.prog f (#[.pointer (some ⟨b, 0, none⟩)] ++ xs) w fun e w' => e = .returned (.tuple #[]) ∧ At B b r0 w0 k' (txt ++ t) G' w' := by
  obtain ⟨o, l, h1, h2, h3, h4⟩ := h
  have hb2 := RS.to_len r0 k o l txt
  refine (hf B b _ w h3 hs hb rfl (fun e => by have := hl e; omega)).mono ?_
  rintro e w' ⟨rfl, o', l', ho, hG, hr, hk⟩
  rw [RS.to_to] at hr
  exact ⟨rfl, o', l', by simp at ho; omega, hG, hr, h4.trans hk⟩

theorem At.post {inp : List UInt8} {w1 : World} (h : At B b r0 w0 k txt G w) (hi : r0.str = inp) (h0 : Kept B w1 w0) : Post B b r0 inp k txt G w1 (.returned (.tuple #[])) w := by
  obtain ⟨o, l, h1, h2, h3, h4⟩ := h
  exact ⟨rfl, o, l, by rw [← hi]; exact h1, h2, h3, h0.trans h4⟩
end

/-- identifier: it gives a disambiguator and a name. -/
def Names (inp k : List UInt8) (n : Nat) (name : List UInt8) : Prop :=
  ∀ (B b : Nat) (r0 : RS) (w0 w : World) (txt : List UInt8) (G : Nat → Prop), At B b r0 w0 inp txt G w →
    Calls Tryz.prog 84 #[.pointer (some ⟨b, 0, none⟩)] w fun e w' => e = .returned (.tuple #[.int .i64 n, .string (bs name)]) ∧ At B b r0 w0 k txt G w'

/-- undisambiguatedIdentifier: likewise. -/
def Undis (inp k name : List UInt8) (puny : Bool) : Prop :=
  ∀ (B b : Nat) (r0 : RS) (w0 w : World) (txt : List UInt8) (G : Nat → Prop), At B b r0 w0 inp txt G w →
    Calls Tryz.prog 101 #[.pointer (some ⟨b, 0, none⟩)] w fun e w' => e = .returned (.tuple #[.string (bs name), .bool puny]) ∧ At B b r0 w0 k txt G w'

/-- A call that only reads on. -/
theorem At.moved {B b : Nat} {r0 : RS} {w0 w w' : World} {k k' txt : List UInt8} {G : Nat → Prop} {o l o' : Nat} (h1 : o + k.length = r0.off + r0.str.length) (h2 : r0.skip = false → G l) (h4 : Kept B w0 w) (ho : o' + k'.length = o + k.length)
    (hr : Rst B b { r0.to k o txt l with str := k', off := o' } w') (hk : Kept B w w') : At B b r0 w0 k' txt G w' :=
  ⟨o', l, by omega, h2, hr.cast rfl, h4.trans hk⟩

theorem undis_mk (n : Nat) (ds sep t : List UInt8) (hne : ds ≠ []) (hd : ∀ c ∈ ds, is10 c)
    (hf : f10 ds 0 = n) (hb : IdAt t n) (hn : n ≤ t.length) (hbl : n ≤ 1000000) (hsep : SepOk sep t) : Undis (ds ++ (sep ++ t)) (t.drop n) (t.take n) false := by
  intro B b r0 w0 w txt G h
  obtain ⟨o, l, h1, h2, h3, h4⟩ := h
  refine (undis_plain B b n ds sep t (r0.to (ds ++ (sep ++ t)) o txt l) w (h3.cast rfl) hne hd hf hb hn hbl hsep).mono ?_
  rintro e w' ⟨rfl, hr, hk⟩
  exact ⟨rfl, At.moved h1 h2 h4 (by simp; omega) hr hk⟩

theorem At.base62 {B b : Nat} {r0 : RS} {w0 w : World} {txt : List UInt8} {G : Nat → Prop} (n : Nat) (k : List UInt8) (hn : n ≤ 4611686018427387904) (h : At B b r0 w0 (b62 n ++ k) txt G w) :
    Calls Tryz.prog 105 #[.pointer (some ⟨b, 0, none⟩)] w fun e w' => e = .returned (.int .i64 n) ∧ At B b r0 w0 k txt G w' := by
  obtain ⟨o, l, h1, h2, h3, h4⟩ := h
  refine (base62_any B b n k (r0.to (b62 n ++ k) o txt l) w (h3.cast rfl) hn).mono ?_
  rintro e w' ⟨rfl, hr, hk⟩
  exact ⟨rfl, At.moved h1 h2 h4 (by simp; omega) hr hk⟩

theorem At.disamb {B b : Nat} {r0 : RS} {w0 w : World} {txt : List UInt8} {G : Nat → Prop} (n : Nat) (k : List UInt8) (hn : n ≤ 4611686018427387904) (hr0 : ∃ c l, k = c :: l ∧ c.toNat ≠ 115) (h : At B b r0 w0 (dis n ++ k) txt G w) :
    Calls Tryz.prog 100 #[.pointer (some ⟨b, 0, none⟩)] w fun e w' => e = .returned (.int .i64 n) ∧ At B b r0 w0 k txt G w' := by
  obtain ⟨o, l, h1, h2, h3, h4⟩ := h
  refine (disamb_any B b n k (r0.to (dis n ++ k) o txt l) w (h3.cast rfl) hn hr0).mono ?_
  rintro e w' ⟨rfl, hr, hk⟩
  exact ⟨rfl, At.moved h1 h2 h4 (by simp; omega) hr hk⟩

set_option maxHeartbeats 1000000 in
theorem names_mk (n : Nat) (inp k name : List UInt8) (p : Bool) (h : Undis inp k name p) (hn : n ≤ 4611686018427387904) (h0 : ∃ c l, inp = c :: l ∧ c.toNat ≠ 115) : Names (dis n ++ inp) k n name := by
  intro B b r0 w0 w txt G hr
  have H0 := Lib.hid h0
  clear h0
  go_enter Tryz.func84, Tryz.ntmps84
  go_wp2_with fail
  refine (hr.disamb n inp hn H0.out).mono ?_
  rintro e w1 ⟨rfl, hr1⟩
  go_wp2_with fail
  refine (h B b _ _ _ _ _ hr1).mono ?_
  rintro e w2 ⟨rfl, hr2⟩
  go_wp2_with fail
  go_ret2
  exact ⟨rfl, hr2⟩
end Go.Proofs.YtidokamjbglkbaaGreatDoor

/- symbolName. -/
namespace Go.Proofs.YtidokamjbglkbaaGreatDoor
open Go.RowKit

set_option maxHeartbeats 4000000 in
set_option maxRecDepth 100000 in
theorem symbol_any (lb : Nat) (sk : Bool) (c : UInt8) (inp txt : List UInt8) (G : Nat → Prop) (hp : Says 74 #[.bool true] lb sk (c :: inp) [] txt G) (hc : c.toNat < 48 ∨ 57 < c.toNat) :
    Says 56 #[] lb sk (c :: inp) [] txt G := by
  intro B b r w hr hsk hlb hi ho
  have c1 : w.cell? ⟨b, 1, none⟩ = some (.string (bs r.str)) := by obtain ⟨ad, buf, h'⟩ := hr; exact h'.c1
  rw [hi] at c1
  have HI := Lib.hid hi
  have HSK := Lib.hid hsk
  have HLB := Lib.hid hlb
  have HC := Lib.hid hc
  have A := At.start hr
  rw [hi] at A
  have HO := Lib.hid ho
  clear hi hsk hlb hc ho
  go_enter Tryz.func56, Tryz.ntmps56
  go_wp2_with (first
    | (go_at_call 73; refine (isDigit_no c.toNat _ HC.out).mono ?_; rintro e w' ⟨rfl, rfl⟩)
    | (go_at_call 74; refine (A.says hp HSK.out HLB.out (fun e => by simpa using HO.out e)).mono ?_))
  rintro e w1 ⟨rfl, A'⟩
  clear c1 A
  have c1 := A'.c1
  go_wp2
  go_end0
  exact A'.to rfl rfl |>.post HI.out (Kept.refl B w)
end Go.Proofs.YtidokamjbglkbaaGreatDoor

/- The builder that lies in a reader: String. -/
namespace Go.Proofs.YtidokamjbglkbaaGreatDoor
open Go.RowKit

theorem freeze_other (w : World) (p : Addr) (n k : Nat) (h : k ≠ p.block) : (w.freeze p n).heap[k]? = w.heap[k]? := by
  unfold World.freeze
  split
  · rfl
  · simp only [Array.getElem?_modify]
    rw [if_neg (by omega)]

set_option maxHeartbeats 2000000 in
set_option maxRecDepth 100000 in
theorem bString (B b : Nat) (r : RS) (w : World) (h : Rst B b r w) (h0 : r.out ≠ []) :
    Calls Tryz.prog 60 #[.pointer (some ⟨b, 3, none⟩)] w fun e w' => e = .returned (.string (bs r.out)) ∧ Below B w w' ∧ w'.heap[b]? = w.heap[b]? := by
  obtain ⟨ad, buf, h⟩ := h.open
  have c4 := h.c4
  have hown := h.own
  have hl0 : r.out.length ≠ 0 := by simpa using h0
  obtain ⟨l, hl⟩ : ∃ l, l = r.out := ⟨_, rfl⟩
  rw [← hl] at hown hl0 ⊢
  obtain ⟨g, cap, cur, rfl, hbg, hg, hnc, hcm, hcs, htake⟩ : ∃ g cap cur, buf = .slice (some ⟨g, 0, none⟩) l.length cap ∧ B ≤ g ∧ w.heap[g]? = some (.cells cur tB (0, 0)) ∧ l.length ≤ cap ∧ cap ≤ maxLen ∧ cur.size = cap * 1 ∧ cur.toList.take (l.length * 1) = bv l := by
    rcases hown.2 with ⟨_, hz⟩ | ⟨g, cap, cur, hv, r⟩
    · exact absurd hz hl0
    · exact ⟨g, cap, cur, hv, r⟩
  have c1 : w.drew.cell? ⟨b, 4, none⟩ = some (.slice (some ⟨g, 0, none⟩) l.length cap) := c4
  have hSD : (Builtin.unsafeSliceData_ #[39] 105 #[.slice (some ⟨g, 0, none⟩) l.length cap]).run Tryz.prog w.drew = .ok (.pointer (some ⟨g, 0, none⟩)) w.drew :=
    Lib.run_unsafeSliceData_row _ _ _ _ _ _ (by omega)
  have hUS : (Builtin.unsafeString_ #[105, 3] 9 #[.pointer (some ⟨g, 0, none⟩), .int .i64 l.length]).run Tryz.prog w.drew = .ok (.string (bs l)) (w.drew.freeze ⟨g, 0, none⟩ l.length) := by
    refine Lib.run_unsafeString_row w.drew 105 3 9 tB Tryz.underlying105 (by kernel_rfl) g cur.size (by have hg' : w.drew.heap[g]? = some (.cells cur tB (0, 0)) := hg; simp [World.shape?, hg']) l (by intro e; rw [e] at hl0; exact hl0 rfl) (by omega) (by unfold maxLen at hcm; omega) ?_
    intro j x hx
    have := hown.cells (g := g) rfl j (.int .u8 x.toNat) (by simp [bv, hx])
    exact this
  have bf : Below B w (w.drew.freeze ⟨g, 0, none⟩ l.length) := Lib.below_freeze (Below.drew (Below.refl B w)) (p := ⟨g, 0, none⟩) hbg _
  have hgb : b ≠ g := fun e => Lib.ownBlock_ne h.own h.heap (by decide) (by rw [e]; rfl)
  have bh : (w.drew.freeze ⟨g, 0, none⟩ l.length).heap[b]? = w.heap[b]? := freeze_other _ _ _ _ hgb
  clear hgb
  clear hl h hown hg htake h0 hl0
  go_enter Tryz.func60, Tryz.ntmps60
  go_wp2
  go_region
  all_goals (go_wp2; go_ret; exact ⟨rfl, bf, bh⟩)
end Go.Proofs.YtidokamjbglkbaaGreatDoor

/- zzIndex of a byte that does not occur. -/
namespace Go.Proofs.YtidokamjbglkbaaGreatDoor
open Go.RowKit

set_option maxHeartbeats 2000000 in
set_option maxRecDepth 100000 in
theorem index_none (l : List UInt8) (c : UInt8) (hc : ∀ x ∈ l, x ≠ c) (hl : l.length ≤ 1000000000000) (w : World) :
    Calls Tryz.prog 53 #[.string (bs l), .string (bs [c])] w fun e w' => e = .returned (.int .i64 (-1)) ∧ w' = w := by
  have HC := Lib.hid hc
  clear hc
  go_enter Tryz.func53, Tryz.ntmps53
  go_wp2_with fail
  go_loop [5] (fun i => ∃ k : Nat, k ≤ l.length ∧ i = .int .i64 k) (fun i => l.length - (intOf i).toNat)
  case atStart => exact ⟨0, Nat.zero_le _, rfl⟩
  case round =>
    obtain ⟨k, hk, rfl⟩ := hrel
    by_cases hlt : k < l.length
    · have hs : (((bs l).extract k (k + 1)).toList == (bs [c]).toList) = false := by
        rw [Lib.bytes_beq_false_iff, bs_extract, show (l.drop k).take (k + 1 - k) = [l[k]] by rw [Nat.add_sub_cancel_left, List.drop_eq_getElem_cons hlt]; rfl]
        intro e
        have := bs_inj e
        simp at this
        exact HC.out _ (List.getElem_mem hlt) this
      go_wp2_with fail
      go_round
      case rel => exact ⟨k + 1, by omega, by go_num⟩
      case measure => simp [intOf]; omega
    · have hkn : k = l.length := by omega
      subst hkn
      go_wp2_with fail
      go_ret
      exact ⟨rfl, rfl⟩
end Go.Proofs.YtidokamjbglkbaaGreatDoor

/- The deferred closures where the frame below returns. -/
namespace Go.Proofs.YtidokamjbglkbaaGreatDoor
open Go.RowKit

theorem top_idle (p q : Addr) (w : World) :
    CallsD Tryz.prog 52 #[.pointer (some p), .pointer (some q)] .returning w fun e u' w' => e = .returned (.tuple #[]) ∧ u' = .returning ∧ w' = w := by
  refine callsD_of_wpS Tryz.func52 rfl fun c₀ cs hu => ?_
  apply wpS_seq
  apply wpS_region
  simp [wpOpsS, go_sem, recoverD, hu, Tryz.ntmps52, Exit.thenS]
  apply wpS_seq
  apply wpS_region
  simp [wpOpsS, go_sem, Exit.thenS]
  refine wpS_cond (t := false) (by simp [Act.eval]) ?_
  simp only [Bool.false_eq_true, if_false]
  refine wpS_of_wp (wp_skip ?_)
  cases c₀
  simp_all [bodyPostS, results, Tryz.results52]
end Go.Proofs.YtidokamjbglkbaaGreatDoor

/- rustToString. -/
namespace Go.Proofs.YtidokamjbglkbaaGreatDoor
open Go.RowKit

/-- A reader that begins. -/
def R0 (str : List UInt8) : RS := ⟨str, str, 0, [], false, 0, 0⟩

theorem Rst.fresh {B : Nat} {w : World} (ht : Tabs B w) (hB : B ≤ w.heap.size) (str : List UInt8) (hl : str.length ≤ 1000000000) :
    Rst w.heap.size w.heap.size (R0 str) (w.alloc (.cells ((R0 str).cs (.pointer none) (.slice none 0 0)) tR)) := by
  refine ⟨.pointer none, .slice none 0 0, ⟨Nat.le_refl _, by simp, by simpa [R0] using hl, ?_, heap_alloc_new w _, .inl ⟨rfl, rfl⟩, ⟨by simp [R0, bv], .inl ⟨rfl, rfl⟩⟩⟩⟩
  obtain ⟨W, h1, h2, h3⟩ := ht
  exact ⟨W, h1, by omega, fun k hk => (Below.heap_alloc _ _ _ (by omega)).trans (h3 k hk)⟩

set_option maxHeartbeats 4000000 in
set_option maxRecDepth 100000 in
theorem toString_any (c : UInt8) (inp txt : List UInt8) (G : Nat → Prop) (hp : Says 74 #[.bool true] 0 false (c :: inp) [] txt G) (hc : c.toNat < 48 ∨ 57 < c.toNat)
    (hdot : ∀ x ∈ 95 :: 82 :: c :: inp, x ≠ 46) (hlen : inp.length ≤ 100000000) (ht : txt ≠ []) (htl : txt.length ≤ 1000000000) (B : Nat) (w : World) (hT : Tabs B w) (hB : B ≤ w.heap.size) :
    Calls Tryz.prog 39 #[.string (bs (95 :: 82 :: c :: inp)), .slice none 0 0] w fun e w' => e = .returned (.tuple #[.string (bs txt), .nilIface]) ∧ Below w.heap.size w w' := by
  have hmf : ∀ (fn : Fn) (first cap : Array Value) (w : World), (Instr.makeFunc fn first cap).run Tryz.prog w = .ok (.func fn first cap) w := fun _ _ _ _ => rfl
  have HX := Lib.hid (fun w => index_none (95 :: 82 :: c :: inp) 46 hdot (by simp; omega) w)
  have HP : Hid (∀ w, Calls Tryz.prog 51 #[.string (bs (95 :: 82 :: c :: inp)), .string (bs [95, 82])] w fun e w' => e = .returned (.bool true) ∧ w' = w) := by
    intro w
    refine (Tryz.strings_HasPrefix (bs (95 :: 82 :: c :: inp)) (bs [95, 82]) w).mono ?_
    rintro e w' ⟨rfl, rfl⟩
    exact ⟨by simp [Lib.hasPrefix], rfl⟩
  have b1 : Below w.heap.size w ((w.alloc (.cells #[.string ⟨#[]⟩] 9)).alloc (.cells #[.nilIface] 60)) := ((Below.refl _ _).alloc (Nat.le_refl _) _).alloc (by simp) _
  have F := Rst.fresh (hT.same fun k hk => (b1.mono hB).block k hk) (by simp; omega : B ≤ ((w.alloc (.cells #[.string ⟨#[]⟩] 9)).alloc (.cells #[.nilIface] 60)).heap.size) (c :: inp) (by simp; omega)
  have b2 := Lib.hid (b1.alloc (by simp; omega) (.cells ((R0 (c :: inp)).cs (.pointer none) (.slice none 0 0)) tR))
  have e1 : ((w.alloc (.cells #[.string ⟨#[]⟩] 9)).alloc (.cells #[.nilIface] 60)).heap.size = w.heap.size + 1 + 1 := by simp
  rw [e1] at F
  have A := Lib.hid (At.start F)
  have HS := Lib.hid (symbol_any 0 false c inp txt G hp hc)
  have TL := Lib.hid htl
  have TN := Lib.hid ht
  have hex : (bs (95 :: 82 :: c :: inp)).extract 2 (inp.length + 1 + 1 + 1) = bs (c :: inp) := by rw [bs_extract]; congr 1; simp
  clear hp hc hdot hT hB b1 e1 F htl ht
  go_enter_defers Tryz.func39, Tryz.ntmps39
  go_wp2_with (first
    | (go_at_call 51; refine (HP.out _).mono ?_; rintro e w' ⟨rfl, rfl⟩)
    | (go_at_call 53; refine (HX.out _).mono ?_; rintro e w' ⟨rfl, rfl⟩)
    | (go_at_call 56; fail))
  go_loop [10, 38] (fun _ i => i = .int .i64 0) (fun _ _ => 0)
  case atStart => rfl
  case round =>
    subst hrel
    go_wp2_with (go_at_call 56; refine (At.says HS.out A.out rfl rfl (fun _ => by simpa [R0] using TL.out)).mono ?_)
    rintro e w1 ⟨rfl, A1⟩
    intro A1
    have c1 := A1.c1
    have A1' := A1
    obtain ⟨o, l, _, _, H, K⟩ := A1'
    have BS := Lib.hid (bString _ _ _ _ H (by simpa [R0, RS.to] using TN.out))
    obtain ⟨ad, buf, V⟩ := H
    have c9 := V.c9
    have c5 := V.c5
    have b3 := Lib.hid (b2.out.trans ((K.below (by simp)).mono (by omega)))
    have HV := Lib.hid V.heap
    have hb0 : w1.heap[w.heap.size]? = some (.cells #[.string ⟨#[]⟩] 9 (0, 0)) := by
      rw [K.block _ (by simp <;> omega) (.inl (by omega)), Below.heap_alloc _ _ _ (by simp <;> omega), Below.heap_alloc _ _ _ (by simp)]
      exact heap_alloc_new w _
    have hb1 : w1.heap[w.heap.size + 1]? = some (.cells #[.nilIface] 60 (0, 0)) := by
      rw [K.block _ (by simp) (.inl (by omega)), Below.heap_alloc _ _ _ (by simp)]
      have := heap_alloc_new (w.alloc (.cells #[.string ⟨#[]⟩] 9)) (.cells #[.nilIface] 60)
      simpa using this
    have HB0 := Lib.hid hb0
    have HB1 := Lib.hid hb1
    clear hb0 hb1
    clear A1 V K A b2
    go_wp2_with (go_at_call 60; refine BS.out.mono ?_)
    rintro e w2 ⟨rfl, b4, hb⟩
    have c9' : w2.cell? ⟨w.heap.size + 1 + 1, 9, none⟩ = some (.int .i64 0) := by rw [cellAt (hb.trans HV.out)]; rfl
    have d0 : w2.heap[w.heap.size]? = some (.cells #[.string ⟨#[]⟩] 9 (0, 0)) := (b4.block _ (by omega)).trans HB0.out
    have d1 : w2.heap[w.heap.size + 1]? = some (.cells #[.nilIface] 60 (0, 0)) := (b4.block _ (by omega)).trans HB1.out
    have k0 : w2.cell? ⟨w.heap.size, 0, none⟩ = some (.string ⟨#[]⟩) := by rw [cellAt d0]; rfl
    have k1 : w2.cell? ⟨w.heap.size + 1, 0, none⟩ = some .nilIface := by rw [cellAt d1]; rfl
    have f0 : w2.frozen? ⟨w.heap.size, 0, none⟩ = false := Lib.frozen_of_heap d0 0
    have f1 : w2.frozen? ⟨w.heap.size + 1, 0, none⟩ = false := Lib.frozen_of_heap d1 0
    have b5 := Lib.hid (b3.out.trans (b4.mono (by omega)))
    have D0 := Lib.hid d0
    have D1 := Lib.hid d1
    clear d0 d1 b4 hb b3 HV HB0 HB1 BS
    go_wp2
    refine leaves_cons (f := 52) (args := #[.pointer (some ⟨w.heap.size, 0, none⟩), .pointer (some ⟨w.heap.size + 1, 0, none⟩)]) (by simp) (by simp [go_sem]) ?_
    refine (top_idle ⟨w.heap.size, 0, none⟩ ⟨w.heap.size + 1, 0, none⟩ _).mono ?_
    rintro e u' w'' ⟨rfl, rfl, rfl⟩
    have hx : ((R0 (c :: inp)).to [] o txt l).out = txt := rfl
    rw [hx]
    have E0 : (w2.setCell ⟨w.heap.size, 0, none⟩ (.string (bs txt))).cell? ⟨w.heap.size, 0, none⟩ = some (.string (bs txt)) := by rw [cellAt (setCell_heap D0.out 0 _)]; rfl
    have D1' : (w2.setCell ⟨w.heap.size, 0, none⟩ (.string (bs txt))).heap[w.heap.size + 1]? = some (.cells #[.nilIface] 60 (0, 0)) := by
      rw [Below.heap_setCell _ _ _ _ (by simp)]; exact D1.out
    have E1 : ((w2.setCell ⟨w.heap.size, 0, none⟩ (.string (bs txt))).setCell ⟨w.heap.size + 1, 0, none⟩ .nilIface).cell? ⟨w.heap.size + 1, 0, none⟩ = some .nilIface := by rw [cellAt (setCell_heap D1' 0 _)]; rfl
    simp [Leaves, settle, results, Tryz.results39, go_sem, E0, E1]
    exact (b5.out.setCell (p := ⟨w.heap.size, 0, none⟩) (Nat.le_refl _) _).setCell (p := ⟨w.heap.size + 1, 0, none⟩) (Nat.le_succ _) _
end Go.Proofs.YtidokamjbglkbaaGreatDoor

/- impl.Told. -/
namespace Go.Proofs.YtidokamjbglkbaaGreatDoor
open Go.RowKit

/-- No options. -/
abbrev noOpts : Value := .agg #[.bool false, .bool false, .bool false, .bool false, .bool false, .bool false, .bool false, .int .i64 0]

set_option maxHeartbeats 4000000 in
set_option maxRecDepth 100000 in
theorem list_none (w : World) : Calls Tryz.prog 28 #[noOpts] w fun e w' => e = .returned (.slice none 0 0) ∧ Below w.heap.size w w' := by
  go_enter Tryz.func28, Tryz.ntmps28
  go_wp2
  go_ret
  exact ⟨rfl, (Below.refl _ _).alloc (Nat.le_refl _) _⟩

/-- A whole name is read. -/
def ReadAs (s txt : List UInt8) : Prop := ∀ (B : Nat) (w : World), Tabs B w → B ≤ w.heap.size →
  Calls Tryz.prog 39 #[.string (bs s), .slice none 0 0] w fun e w' => e = .returned (.tuple #[.string (bs txt), .nilIface]) ∧ Below w.heap.size w w'

set_option maxHeartbeats 4000000 in
set_option maxRecDepth 100000 in
theorem told_any (s txt : List UInt8) (h : ReadAs s txt) (B : Nat) (w : World) (hT : Tabs B w) (hB : B ≤ w.heap.size) :
    Calls Tryz.prog 22 #[.string (bs s), noOpts] w fun e w' => e = .returned (.tuple #[.string (bs txt), .int .i64 0]) ∧ Below w.heap.size w w' := by
  have HH := Lib.hid h
  have HT := Lib.hid hT
  clear h hT
  go_enter Tryz.func22, Tryz.ntmps22
  go_wp2_with (go_at_call 28; refine (list_none _).mono ?_)
  rintro e w1 ⟨rfl, b1⟩
  have b2 := ((Below.refl w.heap.size w).alloc (Nat.le_refl _) _).trans (b1.mono (by simp))
  have T2 := Lib.hid (HT.out.same fun k hk => b2.block k (by omega))
  have B2 := Lib.hid b2
  have S2 := b2.size
  have S3 := Lib.hid (show B ≤ w1.heap.size by omega)
  clear b1 b2 S2
  go_wp2_with (first
    | (go_at_call 39; refine (HH.out B _ T2.out S3.out).mono ?_)
    | (go_at_call 27; go_in))
  rintro e w3 ⟨rfl, b3⟩
  have b4 := B2.out.trans (b3.mono B2.out.size)
  clear b3 T2
  go_wp2
  go_ret2
  exact ⟨rfl, b4⟩
end Go.Proofs.YtidokamjbglkbaaGreatDoor

/- genericArg. -/
namespace Go.Proofs.YtidokamjbglkbaaGreatDoor
open Go.RowKit

set_option maxHeartbeats 4000000 in
set_option maxRecDepth 100000 in
theorem genericArg_K (lb : Nat) (sk : Bool) (inp k txt : List UInt8) (G : Nat → Prop) (h : Says 104 #[] lb sk inp k txt G) : Says 111 #[] lb sk (75 :: inp) k txt G := by
  intro B b r w hr hsk hlb hi ho
  have c1 : w.cell? ⟨b, 1, none⟩ = some (.string (bs r.str)) := by obtain ⟨ad, buf, h'⟩ := hr; exact h'.c1
  rw [hi] at c1
  have HI := Lib.hid hi
  have HSK := Lib.hid hsk
  have HLB := Lib.hid hlb
  have A := At.start hr
  rw [hi] at A
  have HO := Lib.hid ho
  clear hi hsk hlb ho
  go_enter Tryz.func111, Tryz.ntmps111
  go_wp2_with fail
  refine (A.adv 75).mono ?_
  rintro e w1 ⟨rfl, A'⟩
  clear c1; clear A; have A := A'; clear A'
  go_wp2_with fail
  refine (A.says h HSK.out HLB.out (fun e => by simpa using HO.out e)).mono ?_
  rintro e w2 ⟨rfl, A'⟩
  clear A
  go_wp2
  go_end0
  exact A'.to rfl rfl |>.post HI.out (Kept.refl B w)

set_option maxHeartbeats 4000000 in
set_option maxRecDepth 100000 in
theorem genericArg_T (lb : Nat) (sk : Bool) (c : UInt8) (inp k txt : List UInt8) (G : Nat → Prop) (h : Says 86 #[] lb sk (c :: inp) k txt G) (hL : ((c.toNat : Int) == 76) = false) (hK : ((c.toNat : Int) == 75) = false) :
    Says 111 #[] lb sk (c :: inp) k txt G := by
  intro B b r w hr hsk hlb hi ho
  have c1 : w.cell? ⟨b, 1, none⟩ = some (.string (bs r.str)) := by obtain ⟨ad, buf, h'⟩ := hr; exact h'.c1
  rw [hi] at c1
  have HI := Lib.hid hi
  have HSK := Lib.hid hsk
  have HLB := Lib.hid hlb
  have A := At.start hr
  rw [hi] at A
  have HO := Lib.hid ho
  clear hi hsk hlb ho
  go_enter Tryz.func111, Tryz.ntmps111
  go_wp2_with fail
  refine (A.says h HSK.out HLB.out (fun e => by simpa using HO.out e)).mono ?_
  rintro e w2 ⟨rfl, A'⟩
  clear A c1
  go_wp2
  go_end0
  exact A'.to rfl rfl |>.post HI.out (Kept.refl B w)
end Go.Proofs.YtidokamjbglkbaaGreatDoor

/- path at a crate, at generic arguments. -/
namespace Go.Proofs.YtidokamjbglkbaaGreatDoor
open Go.RowKit

set_option maxHeartbeats 4000000 in
set_option maxRecDepth 100000 in
theorem path_C (sep : Bool) (lb : Nat) (sk : Bool) (inp k name txt : List UInt8) (n : Nat) (h : Names inp k n name) (hne : name ≠ []) (hl : (name.getLast hne).toNat ≠ 32)
    (htxt : txt = name) : Says 74 #[.bool sep] lb sk (67 :: inp) k txt NS := by
  intro B b r w hr hsk hlb hi ho
  have c1 : w.cell? ⟨b, 1, none⟩ = some (.string (bs r.str)) := by obtain ⟨ad, buf, h'⟩ := hr; exact h'.c1
  rw [hi] at c1
  have hlt := hr.lt
  have hln := hr.len
  rw [hi] at hln
  simp only [List.length_cons] at hln
  have ho' := ho
  rw [htxt] at ho'
  have HO := Lib.hid ho'
  clear ho ho'
  have HI := Lib.hid hi
  have HSK := Lib.hid hsk
  have HLB := Lib.hid hlb
  have HT := Lib.hid htxt
  clear hi hsk hlb htxt
  have A := At.start ((hr.alloc (.cells #[.pointer (some ⟨b, 0, none⟩)] 82)).alloc (.cells #[.bool sep] 4))
  obtain ⟨B0, B1⟩ := boxes2 w 82 4 (.pointer (some ⟨b, 0, none⟩)) (.bool sep)
  rw [HI.out] at A
  go_enter Tryz.func74, Tryz.ntmps74
  go_wp2_with fail
  refine (A.adv 67).mono ?_
  rintro e w1 ⟨rfl, A'⟩
  clear c1 hlt
  clear A; have A := A'; clear A'
  have cB0 := A.box B0 (by decide)
  go_wp2_with fail
  refine (h B b r _ _ _ _ A).mono ?_
  rintro e w2 ⟨rfl, A'⟩
  clear cB0
  clear A; have A := A'; clear A'
  have cB0 := A.box B0 (by decide)
  go_wp2_with fail
  refine (A.ws name hne (fun hs0 => by have ho' := HO.out hs0; simp at ho' ⊢; omega)).mono ?_
  rintro e w3 ⟨rfl, A'⟩
  clear cB0
  clear A; have A := A'; clear A'
  have cB0 := A.box B0 (by decide)
  clear cB0
  go_wp2_with fail
  go_end0
  exact (A.mono fun l e => by rw [e]; exact hl).to rfl (by rw [HT.out]; simp) |>.post HI.out (((Kept.refl B w).alloc _).alloc _)

set_option maxHeartbeats 4000000 in
set_option maxRecDepth 100000 in
theorem path_I_true (lb : Nat) (sk : Bool) (inp k1 k t1 t2 txt : List UInt8) (G1 G2 : Nat → Prop) (h1 : Says 74 #[.bool true] lb sk inp k1 t1 G1) (h2 : Says 88 #[] lb sk k1 (69 :: k) t2 G2)
    (htxt : txt = t1 ++ ([58, 58] ++ ([60] ++ (t2 ++ [62])))) : Says 74 #[.bool true] lb sk (73 :: inp) k txt NS := by
  intro B b r w hr hsk hlb hi ho
  have c1 : w.cell? ⟨b, 1, none⟩ = some (.string (bs r.str)) := by obtain ⟨ad, buf, h'⟩ := hr; exact h'.c1
  rw [hi] at c1
  have hlt := hr.lt
  have hln := hr.len
  rw [hi] at hln
  simp only [List.length_cons] at hln
  have ho' := ho
  rw [htxt] at ho'
  have HO := Lib.hid ho'
  clear ho ho'
  have HI := Lib.hid hi
  have HSK := Lib.hid hsk
  have HLB := Lib.hid hlb
  have HT := Lib.hid htxt
  clear hi hsk hlb htxt
  have A := At.start ((hr.alloc (.cells #[.pointer (some ⟨b, 0, none⟩)] 82)).alloc (.cells #[.bool true] 4))
  obtain ⟨B0, B1⟩ := boxes2 w 82 4 (.pointer (some ⟨b, 0, none⟩)) (.bool true)
  rw [HI.out] at A
  go_enter Tryz.func74, Tryz.ntmps74
  go_wp2_with fail
  refine (A.adv 73).mono ?_
  rintro e w1 ⟨rfl, A'⟩
  clear c1 hlt
  clear A; have A := A'; clear A'
  have cB0 := A.box B0 (by decide)
  have cB1 := A.box B1 (by decide)
  go_wp2_with fail
  refine (A.says h1 HSK.out HLB.out (fun hs0 => by have ho' := HO.out hs0; simp at ho' ⊢; omega)).mono ?_
  rintro e w2 ⟨rfl, A'⟩
  clear cB0 cB1
  clear A; have A := A'; clear A'
  have cB0 := A.box B0 (by decide)
  have cB1 := A.box B1 (by decide)
  go_wp2_with fail
  refine (A.ws [58, 58] (by simp) (fun hs0 => by have ho' := HO.out hs0; simp at ho' ⊢; omega)).mono ?_
  rintro e w3 ⟨rfl, A'⟩
  clear cB0 cB1
  clear A; have A := A'; clear A'
  have cB0 := A.box B0 (by decide)
  go_wp2_with fail
  refine (A.wb 60 60 rfl (fun hs0 => by have ho' := HO.out hs0; simp at ho' ⊢; omega)).mono ?_
  rintro e w4 ⟨rfl, A'⟩
  clear cB0
  clear A; have A := A'; clear A'
  have cB0 := A.box B0 (by decide)
  go_wp2_with fail
  refine (A.says h2 HSK.out HLB.out (fun hs0 => by have ho' := HO.out hs0; simp at ho' ⊢; omega)).mono ?_
  rintro e w5 ⟨rfl, A'⟩
  clear cB0
  clear A; have A := A'; clear A'
  have cB0 := A.box B0 (by decide)
  go_wp2_with fail
  refine (A.wb 62 62 rfl (fun hs0 => by have ho' := HO.out hs0; simp at ho' ⊢; omega)).mono ?_
  rintro e w6 ⟨rfl, A'⟩
  clear cB0
  clear A; have A := A'; clear A'
  have cB0 := A.box B0 (by decide)
  go_wp2_with fail
  refine (A.chk 69 69 rfl).mono ?_
  rintro e w7 ⟨rfl, A'⟩
  clear cB0
  clear A; have A := A'; clear A'
  have cB0 := A.box B0 (by decide)
  clear cB0
  go_wp2_with fail
  go_end0
  exact (A.mono fun l e => by rw [e]; decide).to rfl (by rw [HT.out]; simp) |>.post HI.out (((Kept.refl B w).alloc _).alloc _)

set_option maxHeartbeats 4000000 in
set_option maxRecDepth 100000 in
theorem path_I_false (lb : Nat) (sk : Bool) (inp k1 k t1 t2 txt : List UInt8) (G1 G2 : Nat → Prop) (h1 : Says 74 #[.bool false] lb sk inp k1 t1 G1) (h2 : Says 88 #[] lb sk k1 (69 :: k) t2 G2)
    (htxt : txt = t1 ++ (([60] ++ (t2 ++ [62])))) : Says 74 #[.bool false] lb sk (73 :: inp) k txt NS := by
  intro B b r w hr hsk hlb hi ho
  have c1 : w.cell? ⟨b, 1, none⟩ = some (.string (bs r.str)) := by obtain ⟨ad, buf, h'⟩ := hr; exact h'.c1
  rw [hi] at c1
  have hlt := hr.lt
  have hln := hr.len
  rw [hi] at hln
  simp only [List.length_cons] at hln
  have ho' := ho
  rw [htxt] at ho'
  have HO := Lib.hid ho'
  clear ho ho'
  have HI := Lib.hid hi
  have HSK := Lib.hid hsk
  have HLB := Lib.hid hlb
  have HT := Lib.hid htxt
  clear hi hsk hlb htxt
  have A := At.start ((hr.alloc (.cells #[.pointer (some ⟨b, 0, none⟩)] 82)).alloc (.cells #[.bool false] 4))
  obtain ⟨B0, B1⟩ := boxes2 w 82 4 (.pointer (some ⟨b, 0, none⟩)) (.bool false)
  rw [HI.out] at A
  go_enter Tryz.func74, Tryz.ntmps74
  go_wp2_with fail
  refine (A.adv 73).mono ?_
  rintro e w1 ⟨rfl, A'⟩
  clear c1 hlt
  clear A; have A := A'; clear A'
  have cB0 := A.box B0 (by decide)
  have cB1 := A.box B1 (by decide)
  go_wp2_with fail
  refine (A.says h1 HSK.out HLB.out (fun hs0 => by have ho' := HO.out hs0; simp at ho' ⊢; omega)).mono ?_
  rintro e w2 ⟨rfl, A'⟩
  clear cB0 cB1
  clear A; have A := A'; clear A'
  have cB0 := A.box B0 (by decide)
  have cB1 := A.box B1 (by decide)
  go_wp2_with fail
  refine (A.wb 60 60 rfl (fun hs0 => by have ho' := HO.out hs0; simp at ho' ⊢; omega)).mono ?_
  rintro e w3 ⟨rfl, A'⟩
  clear cB0 cB1
  clear A; have A := A'; clear A'
  have cB0 := A.box B0 (by decide)
  go_wp2_with fail
  refine (A.says h2 HSK.out HLB.out (fun hs0 => by have ho' := HO.out hs0; simp at ho' ⊢; omega)).mono ?_
  rintro e w4 ⟨rfl, A'⟩
  clear cB0
  clear A; have A := A'; clear A'
  have cB0 := A.box B0 (by decide)
  go_wp2_with fail
  refine (A.wb 62 62 rfl (fun hs0 => by have ho' := HO.out hs0; simp at ho' ⊢; omega)).mono ?_
  rintro e w5 ⟨rfl, A'⟩
  clear cB0
  clear A; have A := A'; clear A'
  have cB0 := A.box B0 (by decide)
  go_wp2_with fail
  refine (A.chk 69 69 rfl).mono ?_
  rintro e w6 ⟨rfl, A'⟩
  clear cB0
  clear A; have A := A'; clear A'
  have cB0 := A.box B0 (by decide)
  clear cB0
  go_wp2_with fail
  go_end0
  exact (A.mono fun l e => by rw [e]; decide).to rfl (by rw [HT.out]; simp) |>.post HI.out (((Kept.refl B w).alloc _).alloc _)
end Go.Proofs.YtidokamjbglkbaaGreatDoor

