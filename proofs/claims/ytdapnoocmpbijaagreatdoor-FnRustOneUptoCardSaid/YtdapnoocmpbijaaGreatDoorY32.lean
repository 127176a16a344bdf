/- A right type, as RustPiece writes it, is read as it is told: as an argument, as a type. -/
import Derived.Test.YtdapnoocmpbijaaGreatDoorY16
import Derived.Test.YtdapnoocmpbijaaGreatDoorY31
import Derived.Test.YtdapnoocmpbijaaGreatDoorY03
import Derived.Test.YtdapnoocmpbijaaGreatDoorY17
import Derived.Test.YtdapnoocmpbijaaGreatDoorY04
import Derived.Test.YtdapnoocmpbijaaGreatDoorY10
import Derived.Test.YtdapnoocmpbijaaGreatDoorY22
import Derived.Test.YtdapnoocmpbijaaGreatDoorY01
import Derived.Test.YtdapnoocmpbijaaGreatDoorCards
import Derived.Lay
import Derived.Lib.LaidU8
import Derived.Deep.DeepWitnessRowRef
import Derived.MakeChecks
import Derived.Test.YtdapnoocmpbijaaGreatDoorTie
import Derived.SevenTiedAt
import Derived.WideKeyArgs
import Derived.Carry
namespace Go.Proofs.YtdapnoocmpbijaaGreatDoor

theorem pieceOf_eq (t : RT) : pieceOf t = enc idW t ++ (if emp t then [95] else []) := by
  unfold pieceOf
  split <;> simp
theorem FitT.told {t : RT} (h : FitT t) (k : List UInt8) : Told t 0 false (if emp t then [95] else []) k := by
  refine told_all (off := 0) (T := (enc idW t).length) h.rt (by omega) (by omega) (fun _ => rfl) (by have := h.sz; omega) h.room (by omega) ?_
  unfold Sep
  split
  · exact .inl rfl
  · rfl
theorem FitT.mark {t : RT} (h : FitT t) : argMark t.kd = [] := by
  have := h.kd
  unfold isTypeK at this
  unfold argMark
  rw [if_neg (by omega)]
/-- The text of a right type. -/
def tell (t : RT) : List UInt8 := txt .t 0 t
theorem FitT.type {t : RT} (h : FitT t) (k : List UInt8) : Says 85 #[] 0 false (pieceOf t ++ k) k (tell t) NS := by
  have := (h.told k).type h.kd
  rw [pieceOf_eq, List.append_assoc]
  exact this
theorem FitT.arg {t : RT} (h : FitT t) (k : List UInt8) : Says 110 #[] 0 false (pieceOf t ++ k) k (tell t) T0 := by
  have := (h.told k).arg (.inl h.kd)
  rw [h.mark] at this
  rw [pieceOf_eq, List.append_assoc]
  exact this
theorem FitT.head {t : RT} (h : FitT t) : ∃ c l, pieceOf t = c :: l ∧ typeHd c := by
  obtain ⟨c, l, e, hd⟩ := enc_head (idw := idW) h.rt
  exact ⟨c, l ++ (if emp t then [95] else []), by rw [pieceOf_eq, e]; rfl, hd.type h.kd⟩
theorem typeHd.ne69 {c : UInt8} (h : typeHd c) : c.toNat ≠ 69 := by
  unfold typeHd pathHd at h; omega
theorem FitT.no46 {t : RT} (h : FitT t) : ∀ x ∈ pieceOf t, x ≠ 46 := by
  intro x hx
  rw [pieceOf_eq, List.mem_append] at hx
  rcases hx with hx | hx
  · have := (enc_ok _ t (Nat.le_refl _) 0 (by omega) h.rt).1 x hx
    intro e; subst e; exact this rfl
  · split at hx <;> simp at hx
    subst hx; decide
theorem FitT.len {t : RT} (h : FitT t) : (pieceOf t).length ≤ 330000 := by
  have := (enc_ok _ t (Nat.le_refl _) 0 (by omega) h.rt).2
  have h2 := h.sz
  rw [pieceOf_eq, List.length_append]
  split <;> simp <;> omega
theorem FitT.tlen {t : RT} (h : FitT t) : (tell t).length ≤ 360000 := by
  have := txt_ok _ t (Nat.le_refl _) 0 (by omega) h.rt .t 0
  have h2 := h.sz
  unfold tell
  omega
theorem FitT.read {t : RT} (h : FitT t) : ReadAs (nameOf (pieceOf t)) (toldOf (tell t)) := by
  obtain ⟨c, l, e, hd⟩ := h.head
  have ha := h.arg [69]
  refine read_args (pieceOf t) (tell t) [tell t] ?_ (by simp [joined, tailText]) h.no46 (by have := h.len; omega) (by have := h.tlen; omega)
  rw [e] at ha ⊢
  exact Run.cons c _ _ _ _ _ hd.ne69 ha (Run.nil [])
end Go.Proofs.YtdapnoocmpbijaaGreatDoor

/- laws: rustWrapped. -/
namespace Go.Proofs.YtdapnoocmpbijaaGreatDoor
open Go.RowKit

/-- The worlds in which a law goes on: its own tree lies at k. -/
structure StT (M B : Nat) (t : RT) (w0 : World) (k : Nat) (cs : Array Value) (w : World) : Prop where
  tabs : Tabs B w
  hB : B ≤ w.heap.size
  tree : TreeAt M B w cs t
  below : Below w0.heap.size w0 w
  box : w.heap[k]? = some (.cells cs tRu (0, 0))
theorem StT.step {M B : Nat} {t : RT} {w0 w w' : World} {k : Nat} {cs : Array Value} (h : StT M B t w0 k cs w) (b : Below w.heap.size w w') : StT M B t w0 k cs w' :=
  ⟨h.tabs.same fun j hj => b.block j (by have := h.hB; omega), by have := h.hB; have := b.size; omega, h.tree.mono (Nat.le_refl _) fun j hj => b.block j (by have := h.hB; omega), h.below.trans (b.mono h.below.size), (b.block k (Array.getElem?_eq_some_iff.1 h.box).1).trans h.box⟩
theorem StT.cells {M B : Nat} {t : RT} {w0 w : World} {k : Nat} {kd : Int} {c : UInt8} {nm : List UInt8} {n : Nat} {fl : Bool} {ks : Value} (h : StT M B t w0 k (rv kd c nm n fl ks) w) :
    w.cell? ⟨k, 0, none⟩ = some (.int .i64 kd) ∧ w.cell? ⟨k, 1, none⟩ = some (.int .u8 c.toNat) ∧ w.cell? ⟨k, 2, none⟩ = some (.string (bs nm)) ∧ w.cell? ⟨k, 3, none⟩ = some (.int .u64 n) ∧
      w.cell? ⟨k, 4, none⟩ = some (.bool fl) ∧ w.cell? ⟨k, 5, none⟩ = some ks := by
  refine ⟨?_, ?_, ?_, ?_, ?_, ?_⟩ <;> (rw [cellAt h.box]; rfl)
theorem StT.start {M B : Nat} {t : RT} {w : World} {cs : Array Value} (ht : Tabs B w) (hB : B ≤ w.heap.size) (hT : TreeAt M B w cs t) : StT M B t w w.heap.size cs (w.alloc (.cells cs tRu)) := by
  have b1 : Below w.heap.size w (w.alloc (.cells cs tRu)) := (Below.refl _ _).alloc (Nat.le_refl _) _
  exact ⟨ht.same fun j hj => b1.block j (by omega), by simp; omega, hT.mono (Nat.le_refl _) fun j hj => b1.block j (by omega), b1, tree_new w cs⟩

set_option maxHeartbeats 4000000 in
set_option maxRecDepth 100000 in
theorem wrapped_any {M : Nat} (t : RT) (l bf bh : List UInt8) (hl : l.length ≤ 100) (hb : bf.length ≤ 100) (hb2 : bh.length ≤ 100) (hread : FitT t → ReadAs (nameOf (l ++ pieceOf t)) (toldOf (bf ++ (tell t ++ bh))))
    (kd : Int) (c : UInt8) (nm : List UInt8) (n : Nat) (fl : Bool) (kv : Value) (hM : M ≤ 2147483647) (B : Nat) (w : World) (ht : Tabs B w) (hB : B ≤ w.heap.size) (hT : TreeAt M B w (rv kd c nm n fl kv) t) :
    Calls Tryz.prog 13 #[.agg (rv kd c nm n fl kv), .string (bs l), .string (bs bf), .string (bs bh)] w fun e w' => e = .returned (.bool true) ∧ Below w.heap.size w w' := by
  have S0 := Lib.hid (StT.start ht hB hT)
  have HF := Lib.hid (fun w' (h : StT M B t w w.heap.size (rv kd c nm n fl kv) w') => fitsType_any t kd c nm n fl kv hM B w' h.tabs h.hB h.tree)
  have HP := Lib.hid (fun (hf : FitT t) w' (h : StT M B t w w.heap.size (rv kd c nm n fl kv) w') => piece_text t (by omega : 0 ≤ 20) hf.rt hf.kd hf.sz kd c nm n fl kv B w' h.tabs h.hB h.tree)
  have HA := Lib.hid (fun (hf : FitT t) w' (h : StT M B t w w.heap.size (rv kd c nm n fl kv) w') => argument_any (pieceOf t) (tell t) (by have := hf.len; omega) (by have := hf.tlen; omega) hf.read B w' h.tabs h.hB)
  have HO := Lib.hid (fun (hf : FitT t) w' => rustOf_any (l ++ pieceOf t) (by have := hf.len; simp; omega) w')
  have HD := Lib.hid (fun (hf : FitT t) w' (h : StT M B t w w.heap.size (rv kd c nm n fl kv) w') => told_any _ _ (hread hf) B w' h.tabs h.hB)
  have HL := Lib.hid (fun (hf : FitT t) => (⟨hf.len, hf.tlen⟩ : (pieceOf t).length ≤ 330000 ∧ (tell t).length ≤ 360000))
  have e0 : bs l ++ bs (pieceOf t) = bs (l ++ pieceOf t) := bs_append _ _
  have e1 : (⟨#[109, 58, 58, 60]⟩ : ByteArray) ++ bs bf = bs (109 :: 58 :: 58 :: 60 :: bf) := by rw [show (⟨#[109, 58, 58, 60]⟩ : ByteArray) = bs [109, 58, 58, 60] from rfl, bs_append]; rfl
  have e2 : bs (109 :: 58 :: 58 :: 60 :: bf) ++ bs (tell t) = bs (109 :: 58 :: 58 :: 60 :: (bf ++ tell t)) := bs_append _ _
  have e3 : bs (109 :: 58 :: 58 :: 60 :: (bf ++ tell t)) ++ bs bh = bs (109 :: 58 :: 58 :: 60 :: (bf ++ (tell t ++ bh))) := by rw [bs_append]; simp
  have e4 : bs (109 :: 58 :: 58 :: 60 :: (bf ++ (tell t ++ bh))) ++ (⟨#[62]⟩ : ByteArray) = bs (toldOf (bf ++ (tell t ++ bh))) := by
    rw [show (⟨#[62]⟩ : ByteArray) = bs [62] from rfl, bs_append]; rfl
  clear ht hB hT hread hM
  go_enter Tryz.func13, Tryz.ntmps13
  go_wp2_with fail
  refine (HF.out _ S0.out).mono ?_
  rintro e w1 ⟨bl, rfl, hf, b1⟩
  have h1 := S0.out.step b1
  obtain ⟨a0, a1, a2, a3, a4, a5⟩ := h1.cells
  have S1 := Lib.hid h1
  clear b1 h1
  cases bl with
  | false =>
    clear hf
    go_wp2
    go_ret
    exact ⟨rfl, S1.out.below⟩
  | true =>
    have FT := Lib.hid (hf rfl)
    obtain ⟨g1, g2⟩ := HL.out FT.out
    clear hf
    go_wp2_with fail
    refine (HP.out FT.out _ S1.out).mono ?_
    rintro e w2 ⟨rfl, b2⟩
    have S2 := Lib.hid (S1.out.step b2)
    clear b2
    go_wp2_with fail
    refine (HA.out FT.out _ S2.out).mono ?_
    rintro e w3 ⟨rfl, b3⟩
    have h3 := S2.out.step b3
    obtain ⟨a0, a1, a2, a3, a4, a5⟩ := h3.cells
    have S3 := Lib.hid h3
    clear b3 h3
    go_wp2_with fail
    refine (HP.out FT.out _ S3.out).mono ?_
    rintro e w4 ⟨rfl, b4⟩
    have S4 := Lib.hid (S3.out.step b4)
    clear b4
    go_wp2_with fail
    refine (HO.out FT.out _).mono ?_
    rintro e w5 ⟨rfl, rfl⟩
    go_wp2_with fail
    refine (HD.out FT.out _ S4.out).mono ?_
    rintro e w6 ⟨rfl, b6⟩
    have S6 := Lib.hid (S4.out.step b6)
    clear b6
    go_wp2
    go_ret
    exact ⟨rfl, S6.out.below⟩
end Go.Proofs.YtdapnoocmpbijaaGreatDoor

/- laws: zzFits2. -/
namespace Go.Proofs.YtdapnoocmpbijaaGreatDoor
open Go.RowKit

set_option maxHeartbeats 2000000 in
set_option maxRecDepth 100000 in
theorem fits2_any (kd : Int) (c : UInt8) (nm : List UInt8) (n : Nat) (fl : Bool) (a : Option Addr) (m cap : Nat) (w : World) :
    Calls Tryz.prog 12 #[.agg (rv kd c nm n fl (.slice a m cap))] w fun e w' => ∃ bl : Bool, e = .returned (.bool bl) ∧ Below w.heap.size w w' := by
  by_cases h1 : nm.length ≤ 2147483647
  · by_cases h2 : m ≤ 2147483647
    all_goals
      go_enter Tryz.func12, Tryz.ntmps12
      go_wp2
      all_goals
        go_ret
        exact ⟨_, rfl, (Below.refl _ _).alloc (Nat.le_refl _) _⟩
  · go_enter Tryz.func12, Tryz.ntmps12
    go_wp2
    go_ret
    exact ⟨_, rfl, (Below.refl _ _).alloc (Nat.le_refl _) _⟩

end Go.Proofs.YtdapnoocmpbijaaGreatDoor

/- The laws on a type with letters in front of it. -/
namespace Go.Proofs.YtdapnoocmpbijaaGreatDoor
open Go.RowKit

/-- A type by itself, as the one argument. -/
theorem read_type (c : UInt8) (l txt : List UInt8) (h : Says 85 #[] 0 false (c :: (l ++ [69])) [69] txt NS) (hL : ((c.toNat : Int) == 76) = false) (hK : ((c.toNat : Int) == 75) = false) (hE : c.toNat ≠ 69) (h46 : ∀ x ∈ c :: l, x ≠ 46)
    (hl : (c :: l).length ≤ 10000000) (ht : txt.length ≤ 100000000) : ReadAs (nameOf (c :: l)) (toldOf txt) := by
  have ha := genericArg_T 0 false c (l ++ [69]) [69] txt NS h hL hK
  exact read_args (c :: l) txt [txt] (Run.cons c _ _ _ _ _ hE ha.any (Run.nil [])) (by simp [joined, tailText]) h46 hl ht
theorem read_wrap {t : RT} (hf : FitT t) (c : UInt8) (l txt : List UInt8) (h : Says 85 #[] 0 false (c :: (l ++ (pieceOf t ++ [69]))) [69] txt NS) (hL : ((c.toNat : Int) == 76) = false) (hK : ((c.toNat : Int) == 75) = false) (hE : c.toNat ≠ 69) (h46 : ∀ x ∈ c :: l, x ≠ 46)
    (hl : l.length ≤ 100) (ht : txt.length ≤ 100000000) : ReadAs (nameOf (c :: (l ++ pieceOf t))) (toldOf txt) := by
  refine read_type c (l ++ pieceOf t) txt (by rw [List.append_assoc]; exact h) hL hK hE ?_ (by have := hf.len; simp; omega) ht
  intro x hx
  rcases List.mem_cons.1 hx with rfl | hx
  · exact h46 x (by simp)
  · rcases List.mem_append.1 hx with hx | hx
    · exact h46 x (by simp [hx])
    · exact hf.no46 x hx
theorem typeHd.ne76 {c : UInt8} (h : typeHd c) : ((c.toNat : Int) == 76) = false := by
  rw [beq_eq_false_iff_ne]
  unfold typeHd pathHd at h; omega

set_option maxHeartbeats 4000000 in
set_option maxRecDepth 100000 in
/-- A law that asks for the size of its tree, then for what another one says. -/
theorem law_wrapped {M : Nat} (f : FuncId) (t : RT) (l bf bh : List UInt8)
    (hread : FitT t → ReadAs (nameOf (l ++ pieceOf t)) (toldOf (bf ++ (tell t ++ bh)))) (hl : l.length ≤ 100) (hb : bf.length ≤ 100) (hb2 : bh.length ≤ 100) (hM : M ≤ 2147483647) (cs : Array Value) (B : Nat) (w : World) (ht : Tabs B w) (hB : B ≤ w.heap.size) (hT : TreeAt M B w cs t)
    (hbody : ∀ (kd : Int) (c : UInt8) (nm : List UInt8) (n : Nat) (fl : Bool) (kv : Value) (w : World) (_ : World),
      (∀ w', StT M B t w w.heap.size (rv kd c nm n fl kv) w' → Calls Tryz.prog 12 #[.agg (rv kd c nm n fl kv)] w' fun e w'' => ∃ bl : Bool, e = .returned (.bool bl) ∧ StT M B t w w.heap.size (rv kd c nm n fl kv) w'') →
      (∀ w', StT M B t w w.heap.size (rv kd c nm n fl kv) w' → Calls Tryz.prog 13 #[.agg (rv kd c nm n fl kv), .string (bs l), .string (bs bf), .string (bs bh)] w' fun e w'' => e = .returned (.bool true) ∧ StT M B t w w.heap.size (rv kd c nm n fl kv) w'') →
      StT M B t w w.heap.size (rv kd c nm n fl kv) (w.alloc (.cells (rv kd c nm n fl kv) tRu)) →
      Calls Tryz.prog f #[.agg (rv kd c nm n fl kv)] w fun e w' => e = .returned (.bool true) ∧ Below w.heap.size w w') :
    Calls Tryz.prog f #[.agg cs] w fun e w' => e = .returned (.bool true) ∧ Below w.heap.size w w' := by
  obtain ⟨kd, c, nm, n, fl, a, m, cap, rfl, _, _⟩ := hT.inv
  refine hbody kd c nm n fl (.slice a m cap) w w ?_ ?_ (StT.start ht hB hT)
  · intro w' h
    refine (fits2_any kd c nm n fl a m cap w').mono ?_
    rintro e w'' ⟨bl, rfl, b⟩
    exact ⟨bl, rfl, h.step b⟩
  · intro w' h
    refine (wrapped_any t l bf bh hl hb hb2 hread kd c nm n fl (.slice a m cap) hM B w' h.tabs h.hB h.tree).mono ?_
    rintro e w'' ⟨rfl, b⟩
    exact ⟨rfl, h.step b⟩

set_option maxHeartbeats 4000000 in
set_option maxRecDepth 100000 in
theorem law_ref {M : Nat} (t : RT) (hM : M ≤ 2147483647) (cs : Array Value) (B : Nat) (w : World) (ht : Tabs B w) (hB : B ≤ w.heap.size) (hT : TreeAt M B w cs t) :
    Calls Tryz.prog 3 #[.agg cs] w fun e w' => e = .returned (.bool true) ∧ Below w.heap.size w w' := by
  refine law_wrapped 3 t [82] [38] [] ?_ (by decide) (by decide) (by decide) hM cs B w ht hB hT ?_
  · intro hf
    have hln := hf.tlen
    obtain ⟨c, l, e, hd⟩ := hf.head
    have h1 := hf.type [69]
    rw [e, List.cons_append] at h1
    refine read_wrap hf 82 [] _ ?_ (by decide) (by decide) (by decide) (by simp) (by decide) (by simp; omega)
    rw [e]
    exact type_R 0 false c hd.ne76 (l ++ [69]) [69] (tell t) _ h1 (by simp)
  · clear ht hB hT w
    intro kd c nm n fl kv w _ H1 H2 h0
    have HZ := Lib.hid H1
    have HR := Lib.hid H2
    have S0 := Lib.hid h0
    clear H1 H2 h0
    go_enter Tryz.func3, Tryz.ntmps3
    go_wp2_with fail
    refine (HZ.out _ S0.out).mono ?_
    rintro e w1 ⟨bl, rfl, h1⟩
    obtain ⟨a0, a1, a2, a3, a4, a5⟩ := h1.cells
    have S1 := Lib.hid h1
    clear h1
    cases bl with
    | false =>
      go_wp2
      go_ret
      exact ⟨rfl, S1.out.below⟩
    | true =>
      go_wp2_with fail
      refine (HR.out _ S1.out).mono ?_
      rintro e w2 ⟨rfl, h2⟩
      have S2 := Lib.hid h2
      clear h2
      go_wp2
      go_ret
      exact ⟨rfl, S2.out.below⟩

set_option maxHeartbeats 4000000 in
set_option maxRecDepth 100000 in
theorem law_mut {M : Nat} (t : RT) (hM : M ≤ 2147483647) (cs : Array Value) (B : Nat) (w : World) (ht : Tabs B w) (hB : B ≤ w.heap.size) (hT : TreeAt M B w cs t) :
    Calls Tryz.prog 4 #[.agg cs] w fun e w' => e = .returned (.bool true) ∧ Below w.heap.size w w' := by
  refine law_wrapped 4 t [81] [38, 109, 117, 116, 32] [] ?_ (by decide) (by decide) (by decide) hM cs B w ht hB hT ?_
  · intro hf
    have hln := hf.tlen
    obtain ⟨c, l, e, hd⟩ := hf.head
    have h1 := hf.type [69]
    rw [e, List.cons_append] at h1
    refine read_wrap hf 81 [] _ ?_ (by decide) (by decide) (by decide) (by simp) (by decide) (by simp; omega)
    rw [e]
    exact type_Q 0 false c hd.ne76 (l ++ [69]) [69] (tell t) _ h1 (by simp)
  · clear ht hB hT w
    intro kd c nm n fl kv w _ H1 H2 h0
    have HZ := Lib.hid H1
    have HR := Lib.hid H2
    have S0 := Lib.hid h0
    clear H1 H2 h0
    go_enter Tryz.func4, Tryz.ntmps4
    go_wp2_with fail
    refine (HZ.out _ S0.out).mono ?_
    rintro e w1 ⟨bl, rfl, h1⟩
    obtain ⟨a0, a1, a2, a3, a4, a5⟩ := h1.cells
    have S1 := Lib.hid h1
    clear h1
    cases bl with
    | false =>
      go_wp2
      go_ret
      exact ⟨rfl, S1.out.below⟩
    | true =>
      go_wp2_with fail
      refine (HR.out _ S1.out).mono ?_
      rintro e w2 ⟨rfl, h2⟩
      have S2 := Lib.hid h2
      clear h2
      go_wp2
      go_ret
      exact ⟨rfl, S2.out.below⟩

set_option maxHeartbeats 4000000 in
set_option maxRecDepth 100000 in
theorem law_const {M : Nat} (t : RT) (hM : M ≤ 2147483647) (cs : Array Value) (B : Nat) (w : World) (ht : Tabs B w) (hB : B ≤ w.heap.size) (hT : TreeAt M B w cs t) :
    Calls Tryz.prog 6 #[.agg cs] w fun e w' => e = .returned (.bool true) ∧ Below w.heap.size w w' := by
  refine law_wrapped 6 t [80] [42, 99, 111, 110, 115, 116, 32] [] ?_ (by decide) (by decide) (by decide) hM cs B w ht hB hT ?_
  · intro hf
    have hln := hf.tlen
    exact read_wrap hf 80 [] _ (type_P 0 false (pieceOf t ++ [69]) [69] (tell t) _ (hf.type [69]) (by simp)) (by decide) (by decide) (by decide) (by simp) (by decide) (by simp; omega)
  · clear ht hB hT w
    intro kd c nm n fl kv w _ H1 H2 h0
    have HZ := Lib.hid H1
    have HR := Lib.hid H2
    have S0 := Lib.hid h0
    clear H1 H2 h0
    go_enter Tryz.func6, Tryz.ntmps6
    go_wp2_with fail
    refine (HZ.out _ S0.out).mono ?_
    rintro e w1 ⟨bl, rfl, h1⟩
    obtain ⟨a0, a1, a2, a3, a4, a5⟩ := h1.cells
    have S1 := Lib.hid h1
    clear h1
    cases bl with
    | false =>
      go_wp2
      go_ret
      exact ⟨rfl, S1.out.below⟩
    | true =>
      go_wp2_with fail
      refine (HR.out _ S1.out).mono ?_
      rintro e w2 ⟨rfl, h2⟩
      have S2 := Lib.hid h2
      clear h2
      go_wp2
      go_ret
      exact ⟨rfl, S2.out.below⟩

set_option maxHeartbeats 4000000 in
set_option maxRecDepth 100000 in
theorem law_raw {M : Nat} (t : RT) (hM : M ≤ 2147483647) (cs : Array Value) (B : Nat) (w : World) (ht : Tabs B w) (hB : B ≤ w.heap.size) (hT : TreeAt M B w cs t) :
    Calls Tryz.prog 7 #[.agg cs] w fun e w' => e = .returned (.bool true) ∧ Below w.heap.size w w' := by
  refine law_wrapped 7 t [79] [42, 109, 117, 116, 32] [] ?_ (by decide) (by decide) (by decide) hM cs B w ht hB hT ?_
  · intro hf
    have hln := hf.tlen
    exact read_wrap hf 79 [] _ (type_O 0 false (pieceOf t ++ [69]) [69] (tell t) _ (hf.type [69]) (by simp)) (by decide) (by decide) (by decide) (by simp) (by decide) (by simp; omega)
  · clear ht hB hT w
    intro kd c nm n fl kv w _ H1 H2 h0
    have HZ := Lib.hid H1
    have HR := Lib.hid H2
    have S0 := Lib.hid h0
    clear H1 H2 h0
    go_enter Tryz.func7, Tryz.ntmps7
    go_wp2_with fail
    refine (HZ.out _ S0.out).mono ?_
    rintro e w1 ⟨bl, rfl, h1⟩
    obtain ⟨a0, a1, a2, a3, a4, a5⟩ := h1.cells
    have S1 := Lib.hid h1
    clear h1
    cases bl with
    | false =>
      go_wp2
      go_ret
      exact ⟨rfl, S1.out.below⟩
    | true =>
      go_wp2_with fail
      refine (HR.out _ S1.out).mono ?_
      rintro e w2 ⟨rfl, h2⟩
      have S2 := Lib.hid h2
      clear h2
      go_wp2
      go_ret
      exact ⟨rfl, S2.out.below⟩

set_option maxHeartbeats 4000000 in
set_option maxRecDepth 100000 in
theorem law_slice {M : Nat} (t : RT) (hM : M ≤ 2147483647) (cs : Array Value) (B : Nat) (w : World) (ht : Tabs B w) (hB : B ≤ w.heap.size) (hT : TreeAt M B w cs t) :
    Calls Tryz.prog 8 #[.agg cs] w fun e w' => e = .returned (.bool true) ∧ Below w.heap.size w w' := by
  refine law_wrapped 8 t [83] [91] [93] ?_ (by decide) (by decide) (by decide) hM cs B w ht hB hT ?_
  · intro hf
    have hln := hf.tlen
    exact read_wrap hf 83 [] _ (type_S 0 false (pieceOf t ++ [69]) [69] (tell t) _ NS (hf.type [69]) (by simp)) (by decide) (by decide) (by decide) (by simp) (by decide) (by simp; omega)
  · clear ht hB hT w
    intro kd c nm n fl kv w _ H1 H2 h0
    have HZ := Lib.hid H1
    have HR := Lib.hid H2
    have S0 := Lib.hid h0
    clear H1 H2 h0
    go_enter Tryz.func8, Tryz.ntmps8
    go_wp2_with fail
    refine (HZ.out _ S0.out).mono ?_
    rintro e w1 ⟨bl, rfl, h1⟩
    obtain ⟨a0, a1, a2, a3, a4, a5⟩ := h1.cells
    have S1 := Lib.hid h1
    clear h1
    cases bl with
    | false =>
      go_wp2
      go_ret
      exact ⟨rfl, S1.out.below⟩
    | true =>
      go_wp2_with fail
      refine (HR.out _ S1.out).mono ?_
      rintro e w2 ⟨rfl, h2⟩
      have S2 := Lib.hid h2
      clear h2
      go_wp2
      go_ret
      exact ⟨rfl, S2.out.below⟩

set_option maxHeartbeats 4000000 in
set_option maxRecDepth 100000 in
theorem law_erased {M : Nat} (t : RT) (hM : M ≤ 2147483647) (cs : Array Value) (B : Nat) (w : World) (ht : Tabs B w) (hB : B ≤ w.heap.size) (hT : TreeAt M B w cs t) :
    Calls Tryz.prog 5 #[.agg cs] w fun e w' => e = .returned (.bool true) ∧ Below w.heap.size w w' := by
  refine law_wrapped 5 t [82, 76, 95] [38] [] ?_ (by decide) (by decide) (by decide) hM cs B w ht hB hT ?_
  · intro hf
    have hln := hf.tlen
    exact read_wrap hf 82 [76, 95] _ (type_RE 0 false (pieceOf t ++ [69]) [69] (tell t) _ (hf.type [69]) (by simp)) (by decide) (by decide) (by decide) (by simp) (by decide) (by simp; omega)
  · clear ht hB hT w
    intro kd c nm n fl kv w _ H1 H2 h0
    have HZ := Lib.hid H1
    have HR := Lib.hid H2
    have S0 := Lib.hid h0
    clear H1 H2 h0
    go_enter Tryz.func5, Tryz.ntmps5
    go_wp2_with fail
    refine (HZ.out _ S0.out).mono ?_
    rintro e w1 ⟨bl, rfl, h1⟩
    obtain ⟨a0, a1, a2, a3, a4, a5⟩ := h1.cells
    have S1 := Lib.hid h1
    clear h1
    cases bl with
    | false =>
      go_wp2
      go_ret
      exact ⟨rfl, S1.out.below⟩
    | true =>
      go_wp2_with fail
      refine (HR.out _ S1.out).mono ?_
      rintro e w2 ⟨rfl, h2⟩
      have S2 := Lib.hid h2
      clear h2
      go_wp2
      go_ret
      exact ⟨rfl, S2.out.below⟩

end Go.Proofs.YtdapnoocmpbijaaGreatDoor

/- A witness's world: the listed variables hold what the program's text lays. What the rows' lists give. -/
namespace Go.Proofs.YtdapnoocmpbijaaGreatDoor
open Go.ChangeShapes Go.WideShapes Go.ChangeAt Go.RowKit

theorem own : ownKnob Tryz.prog.godebug = none := by kernel_rfl

abbrev basicN : String := "loop.example/pub-g01453/pub/rustdemangle.rustBasicTypes"
/-- The seven lists. -/
def laidL : List (String × DataW Unit) := [("math/bits.deBruijn32tab", Rows.laid_math_bits_deBruijn32tab), ("math/bits.deBruijn64tab", Rows.laid_math_bits_deBruijn64tab), ("internal/strconv.uint64pow10", Rows.laid_internal_strconv_uint64pow10), ("unicode/utf8.acceptRanges", Rows.laid_unicode_utf8_acceptRanges), ("loop.example/pub-g01453/pub/rustdemangle.ErrNotMangledName", Rows.laid_loop_example_pub_g01453_pub_rustdemangle_ErrNotMangledName), (basicN, Rows.laid_loop_example_pub_g01453_pub_rustdemangle_rustBasicTypes), ("unicode/utf8.first", Rows.laid_unicode_utf8_first)]
def greatL : List String := ["math/bits.deBruijn32tab", "math/bits.deBruijn64tab", "internal/strconv.uint64pow10", "unicode/utf8.acceptRanges", "loop.example/pub-g01453/pub/rustdemangle.ErrNotMangledName", "unicode/utf8.first"]

/-- The entries of the table of basic types. -/
def basicEntries : Array MapEntry := ((List.range 21).map fun i => match ([(97, [105, 56]), (98, [98, 111, 111, 108]), (99, [99, 104, 97, 114]), (100, [102, 54, 52]), (101, [115, 116, 114]), (102, [102, 51, 50]), (104, [117, 56]), (105, [105, 115, 105, 122, 101]), (106, [117, 115, 105, 122, 101]), (108, [105, 51, 50]), (109, [117, 51, 50]), (110, [105, 49, 50, 56]), (111, [117, 49, 50, 56]), (112, [95]), (115, [105, 49, 54]), (116, [117, 49, 54]), (117, [40, 41]), (118, [46, 46, 46]), (120, [105, 54, 52]), (121, [117, 54, 52]), (122, [33])] : List (Int × List UInt8))[i]? with
  | some (k, s) => { key := .int .u8 k, val := .string ⟨s.toArray⟩, born := i }
  | none => { key := .int .u8 0, val := .string ⟨#[]⟩, born := i }).toArray
/-- The settled world with the table of basic types, in a block of its own. -/
noncomputable def w0 (os : Os) : World :=
  let h := World.holding Tryz.prog os ⟨#[.map basicEntries 21], #[], []⟩
  { h with heap := h.heap.modify ((Tryz.prog.globalNamed basicN).getD 0) fun
      | .cells _ t fr => .cells #[.map (some (h.heap.size - 1))] t fr
      | o => o }
/-- ... and with the other variables. -/
noncomputable def wit (os : Os) : World := (w0 os).layVars Tryz.prog (laidL.filter fun x => greatL.contains x.1)
theorem wit_os (os : Os) : (wit os).os = os := World.layVars_os _ _ _
noncomputable def blocksB : List Nat := [(Tryz.prog.globalNamed basicN).getD 0, (begin Tryz.prog (fun _ _ => 0) default).world.heap.size]

theorem wit_fits (os : Os) : (w0 os).layFits Tryz.prog (laidL.filter fun x => greatL.contains x.1) blocksB = true := by kernel_rfl
theorem wit_ifaces (os : Os) : (w0 os).layIfaces Tryz.prog (laidL.filter fun x => greatL.contains x.1) (wit os) = true := by kernel_rfl
theorem wit_map (os : Os) : LaidIn Tryz.prog (wit os) (laidL.filter fun x => !greatL.contains x.1) blocksB :=
  LaidIn.of_run blocksB 8 (by kernel_rfl) (by kernel_rfl) (by kernel_rfl) (by kernel_rfl)
theorem wit_met (os : Os) (args : Array Value) : laidMet Tryz.prog laidL ((wit os).forCall (fun _ _ => 0) ⟨#[], args, []⟩).memory := by
  have h : laidMet Tryz.prog laidL (wit os) := laidMet_layVars (w0 := w0 os) greatL blocksB rfl (wit_fits os) (wit_ifaces os) (wit_map os)
  exact h.of_heap (by simp [World.memory, World.forCall, Input.heap])
theorem plain_laidL (W : World) (h : laidMetH Tryz.prog laidL W) : laidMet Tryz.prog laidL W := by
  rw [MakeChecks.laidMetH_plain _ _ _ (by kernel_rfl)] at h; exact h
theorem laidH_mk (W : World) (h : laidMet Tryz.prog laidL W) : laidMetH Tryz.prog laidL W := by
  rw [MakeChecks.laidMetH_plain _ _ _ (by kernel_rfl)]; exact h

/-- A table that is listed is the table. -/
theorem tab_of_mem {W : World} {L : List (String × DataW Unit)} {name : String} {k : IntKind} {zs : List Int} {g : Nat} {t e : TypeId} {n : Nat} (h : laidMet Tryz.prog L W) (hm : (name, Lib.tabData k zs) ∈ L)
    (hg : Tryz.prog.globalNamed name = some g) (hty : (Tryz.prog.globals[g]?).map (·.type) = some t) (ht : Tryz.prog.underlying t = some (.array n e)) (he : Tryz.prog.underlying e = some (.int k)) (hce : Tryz.prog.cellsOf e = 1) (hct : Tryz.prog.cellsOf t = n) :
    Lib.TabIs Tryz.prog W name k zs := by
  obtain ⟨g', t', cs, fuel, p, hg', ht', hvar, hd⟩ := Lib.laidMet.reads h hm
  obtain rfl := Option.some.inj (hg.symm.trans hg')
  obtain rfl := Option.some.inj (hty.symm.trans ht')
  unfold Lib.TabIs
  rw [hvar, ← Lib.cells_of_tab ht he hce hct hd]
theorem powG : (Tryz.prog.globalNamed "internal/strconv.uint64pow10").isSome = true := by kernel_rfl
theorem powT : ((Tryz.prog.globalNamed "internal/strconv.uint64pow10").bind fun g => (Tryz.prog.globals[g]?).map (·.type)).map (fun t => (Tryz.prog.underlying t).map fun u => match u with | .array n e => (n, e == 22) | _ => (0, false)) = some (some (20, true)) := by kernel_rfl
theorem powC : ((Tryz.prog.globalNamed "internal/strconv.uint64pow10").bind fun g => (Tryz.prog.globals[g]?).map (·.type)).map (fun t => Tryz.prog.cellsOf t) = some 20 := by kernel_rfl
/-- What the rows' lists give. -/
theorem tabs_of {W : World} (h : laidMet Tryz.prog laidL W) : TabsAt W := by
  refine ⟨?_, laidL, h, by simp [laidL], by simp [laidL], by simp [laidL]⟩
  obtain ⟨g, hg⟩ := Option.isSome_iff_exists.1 powG
  have h1 := powT
  have h2 := powC
  rw [hg] at h1 h2
  simp only [Option.bind_some] at h1 h2
  obtain ⟨t, ht, h3⟩ := Option.map_eq_some_iff.1 h1
  rw [ht] at h2
  simp only [Option.map_some, Option.some.injEq] at h2
  obtain ⟨u, hu, h4⟩ := Option.map_eq_some_iff.1 h3
  cases u <;> simp at h4
  obtain ⟨rfl, rfl⟩ := h4
  refine tab_of_mem h (k := .u64) (zs := Lib.pow10Tab) (g := g) (t := t) ?_ hg ht hu Tryz.underlying22 (by kernel_rfl) h2
  have : (Lib.tabData IntKind.u64 Lib.pow10Tab : DataW Unit) = Rows.laid_internal_strconv_uint64pow10 := by kernel_rfl
  rw [this]; simp [laidL]
end Go.Proofs.YtdapnoocmpbijaaGreatDoor

/- From a call that returns true and leaves all that was there to a row's and a card's statement. -/
namespace Go.Proofs.YtdapnoocmpbijaaGreatDoor
open Go.ChangeShapes Go.WideShapes Go.ChangeAt Go.RowKit

theorem laidOut : laidOutB Tryz.prog = true := by kernel_rfl
/-- A type that can be read to its bottom. -/
noncomputable def okT (t : TypeId) : Bool := Tryz.prog.readableRec t && decide (t < Tryz.prog.types.size)

section
variable {H : Type} {enc : TypeId × Value → H} {W W' : World}
theorem trod_kept {t : TypeId} (ht : okT t = true) {n : Nat} {cs : List Value} {x : DataW H × List MemPlace} (h : DataW.trod enc Tryz.prog W 0 (fun _ => true) true n t cs = some x) (hb : Below W.heap.size W W') (hlt : ∀ p ∈ x.2, p.block < W.heap.size) :
    DataW.trod enc Tryz.prog W' 0 (fun b => decide (b < W.heap.size)) true n t cs = some x := by
  unfold okT at ht
  simp only [Bool.and_eq_true, decide_eq_true_eq] at ht
  exact DataW.trod_stays (kids_book laidOut ht.1) (book_sized ht.1) (fun h => by cases h) ⟨ht.2, book_self t⟩ h (fun p hp => hb.same (hlt p hp)) (fun p hp => by simpa using hlt p hp)
theorem args_kept : ∀ (ts : List TypeId) (vs : List Value) (ds : List (DataW H)) (ps : List MemPlace), DataW.TrodAll enc Tryz.prog W 0 (fun _ => true) true ts vs ds ps → (∀ t ∈ ts, okT t = true) → Below W.heap.size W W' → (∀ p ∈ ps, p.block < W.heap.size) →
    DataW.TrodAll enc Tryz.prog W' 0 (fun b => decide (b < W.heap.size)) true ts vs ds ps
  | [], [], [], _, h, _, _, _ => h
  | t :: ts, v :: vs, d :: ds, _, ⟨p, q, ⟨n, h1⟩, h2, e⟩, ht, hb, hlt => by
    subst e
    exact ⟨p, q, ⟨n, trod_kept (ht t (List.mem_cons_self ..)) h1 hb fun x hx => hlt x (List.mem_append_left _ hx)⟩, args_kept ts vs ds q h2 (fun t h => ht t (List.mem_cons_of_mem _ h)) hb (fun x hx => hlt x (List.mem_append_right _ hx)), rfl⟩
  | [], _ :: _, _, _, h, _, _, _ => h.elim
  | [], [], _ :: _, _, h, _, _, _ => h.elim
  | _ :: _, [], _, _, h, _, _, _ => h.elim
  | _ :: _, _ :: _, [], _, h, _, _, _ => h.elim
theorem vars_kept : ∀ (ns : List String) (gs : List (DataW H)) (ps : List MemPlace), DataW.TrodVars enc Tryz.prog W (fun _ => true) ns gs ps → (∀ n ∈ ns, ∀ g t, Tryz.prog.globalNamed n = some g → (Tryz.prog.globals[g]?).map (·.type) = some t → okT t = true) →
    Below W.heap.size W W' → (∀ p ∈ ps, p.block < W.heap.size) → DataW.TrodVars enc Tryz.prog W' (fun b => decide (b < W.heap.size)) ns gs ps
  | [], [], _, h, _, _, _ => h
  | n :: ns, d :: gs, _, ⟨g, t, cs, fuel, p, q, h1, h2, h3, h4, h5, e⟩, ht, hb, hlt => by
    subst e
    have hg : g < W.heap.size := by
      rcases Nat.lt_or_ge g W.heap.size with h | h
      · exact h
      · unfold World.var? at h3; rw [h1] at h3; simp [Array.getElem?_eq_none h] at h3
    refine ⟨g, t, cs, fuel, p, q, h1, h2, ?_, trod_kept (ht n (List.mem_cons_self ..) g t h1 h2) h4 hb fun x hx => hlt x (by simp [hx]), vars_kept ns gs q h5 (fun n h => ht n (List.mem_cons_of_mem _ h)) hb (fun x hx => hlt x (by simp [hx])), rfl⟩
    rw [← h3]
    unfold World.var?
    rw [h1]
    simp only [Option.bind_some, hb.block g hg]
  | [], _ :: _, _, h, _, _, _ => h.elim
  | _ :: _, [], _, h, _, _, _ => h.elim
end

theorem errT : (((Tryz.prog.globalNamed "loop.example/pub-g01453/pub/rustdemangle.ErrNotMangledName").bind fun g => (Tryz.prog.globals[g]?).map (·.type)).map okT) = some true := by kernel_rfl
theorem basT : (((Tryz.prog.globalNamed basicN).bind fun g => (Tryz.prog.globals[g]?).map (·.type)).map okT) = some true := by kernel_rfl
theorem names_ok : ∀ n ∈ (["loop.example/pub-g01453/pub/rustdemangle.ErrNotMangledName", basicN] : List String), ∀ g t, Tryz.prog.globalNamed n = some g → (Tryz.prog.globals[g]?).map (·.type) = some t → okT t = true := by
  intro n hn g t h1 h2
  simp only [List.mem_cons, List.not_mem_nil, or_false] at hn
  rcases hn with rfl | rfl
  · have := errT; rw [h1, Option.bind_some, h2] at this; simpa using this
  · have := basT; rw [h1, Option.bind_some, h2] at this; simpa using this

section
variable {H : Type} {enc : TypeId × Value → H} {W W' : World}
set_option maxRecDepth 100000 in
/-- A tree among the arguments, opened: whatever its size. -/
theorem arg_tree {r : Reach} {base : Nat} {v : Value} {d : DataW H} {p : List MemPlace} (hv : Value.okWide Tryz.prog W r base tTree v) (h : DataW.Trod enc Tryz.prog W 0 (fun _ => true) true tTree v d p) :
    ∃ cs t, v = .agg cs ∧ TreeAt maxLen W.heap.size W cs t := by
  obtain ⟨fs, hu, _⟩ := underTree
  obtain ⟨cs, rfl, _⟩ := okWide_struct hu hv
  obtain ⟨n, hn⟩ := h
  obtain ⟨t, ht⟩ := open_tree (M := maxLen) (Bk := fun _ => True) (fun _ _ _ _ => trivial) (fun l s _ h => ⟨h, fun _ _ => trivial⟩) (fun _ _ h => h) n _ _ hn trivial
  exact ⟨cs, t, rfl, by simpa [Value.cells] using ht⟩
/-- A law that returns true and writes only what is new. -/
theorem post_true {f : Func} {s : ChangeSpec} {args : Array Value} {ds gs : List (DataW H)} {before : List MemPlace}
    (hW : DataW.Whole enc Tryz.prog f.params.toList s.vars false W args.toList ds gs before) (hv : s.vars = ["loop.example/pub-g01453/pub/rustdemangle.ErrNotMangledName", basicN])
    (hs : s.fn H (ds ++ gs) = { results := [.lit (.bool true)], args := ds, vars := gs }) (hr : f.resultTypes = #[4]) (hp : ∀ t ∈ f.params.toList, okT t = true) (hb : Below W.heap.size W W') :
    s.post enc Tryz.prog f false true false false W args (.bool true) W' := by
  have hW' := hW
  obtain ⟨p, q, hA, hV, rfl, _, _⟩ := hW
  have hlt : ∀ x ∈ p ++ q, x.block < W.heap.size := fun x hx => by simpa using hW'.lt x hx
  refine ⟨ds, gs, p ++ q, [], p, q, hW', ?_, ?_, ?_, hb.frame _, fun h => by cases h⟩
  · rw [hs, hr]; exact trodAll_cons_mk (shut_bool Tryz.underlying4 _) trodAll_mk0
  · rw [hs]; exact args_kept _ _ _ _ hA hp hb fun x hx => hlt x (List.mem_append_left _ hx)
  · rw [hs]; rw [hv] at hV ⊢; exact vars_kept _ _ _ hV names_ok hb fun x hx => hlt x (List.mem_append_right _ hx)
end
end Go.Proofs.YtdapnoocmpbijaaGreatDoor

/- Arguments where what is read is of a bounded bulk. -/
namespace Go.Proofs.YtdapnoocmpbijaaGreatDoor
open Go.ChangeShapes Go.WideShapes Go.ChangeAt Go.RowKit

section
variable {H : Type} {enc : TypeId × Value → H} {W : World}
theorem bulk_one (d : DataW H) : 1 ≤ Rows.uptoBulk d := by
  cases d with
  | lit l => cases l <;> simp [Rows.uptoBulk]
  | nil => simp [Rows.uptoBulk]
  | ptr d => simp [Rows.uptoBulk]
  | slice elems spare => simp [Rows.uptoBulk]
  | agg parts => simp [Rows.uptoBulk]
  | iface t d => simp [Rows.uptoBulk]
  | map entries => simp [Rows.uptoBulk]
  | held h => simp [Rows.uptoBulk]
theorem bulk_part {d : DataW H} {l : List (DataW H)} (h : d ∈ l) : Rows.uptoBulk d ≤ Rows.uptoBulkAll l := by
  induction l with
  | nil => cases h
  | cons x r ih =>
    simp only [Rows.uptoBulkAll]
    rcases List.mem_cons.1 h with e | e
    · subst e; omega
    · have := ih e; omega
theorem bulk_len (l : List (DataW H)) : l.length ≤ Rows.uptoBulkAll l := by
  induction l with
  | nil => simp [Rows.uptoBulkAll]
  | cons x r ih => have := bulk_one x; simp only [Rows.uptoBulkAll, List.length_cons]; omega
theorem bulk_parts {l : List (DataW H)} (hk : Rows.uptoSmall H l = true) : ∀ d ∈ l, Rows.uptoBulk d ≤ 1048576 := by
  have : Rows.uptoBulkAll l ≤ 1048576 := by simpa [Rows.uptoSmall] using hk
  exact fun d hd => Nat.le_trans (bulk_part hd) this
theorem two_vars {gs : List (DataW H)} {ps : List MemPlace} {a b : String} (h : DataW.TrodVars enc Tryz.prog W (fun _ => true) [a, b] gs ps) : ∃ g1 g2, gs = [g1, g2] := by
  obtain ⟨g1, gs1, rfl⟩ : ∃ g1 gs1, gs = g1 :: gs1 := by cases gs with | nil => exact h.elim | cons a l => exact ⟨a, l, rfl⟩
  obtain ⟨_, _, _, _, _, _, _, _, _, _, h, _⟩ := h
  obtain ⟨g2, gs2, rfl⟩ : ∃ g2 gs2, gs1 = g2 :: gs2 := by cases gs1 with | nil => exact h.elim | cons a l => exact ⟨a, l, rfl⟩
  obtain ⟨_, _, _, _, _, _, _, _, _, _, h, _⟩ := h
  cases gs2 with
  | nil => exact ⟨g1, g2, rfl⟩
  | cons a l => exact h.elim

set_option maxRecDepth 100000 in
theorem tree_small {fuel : Nat} {cs : List Value} {x : DataW H × List MemPlace} (h : DataW.trod enc Tryz.prog W 0 (fun _ => true) true fuel tTree cs = some x) (hb : Rows.uptoBulk x.1 ≤ 1048576) : ∃ t, TreeAt 1048576 W.heap.size W cs.toArray t := by
  refine open_tree (M := 1048576) (Bk := fun d => Rows.uptoBulk d ≤ 1048576) ?_ ?_ ?_ fuel cs x h hb
  · intro l hl d hd
    simp only [Rows.uptoBulk] at hl
    have := bulk_part hd; omega
  · intro l s hl _
    simp only [Rows.uptoBulk] at hl
    have := bulk_len l
    exact ⟨by omega, fun d hd => by have := bulk_part hd; omega⟩
  · intro l hl _
    simp only [Rows.uptoBulk] at hl
    omega
set_option maxRecDepth 100000 in
/-- A tree among the arguments, opened. -/
theorem arg_treeU {r : Reach} {base : Nat} {v : Value} {d : DataW H} {p : List MemPlace} (hv : Value.okWide Tryz.prog W r base tTree v) (h : DataW.Trod enc Tryz.prog W 0 (fun _ => true) true tTree v d p) (hb : Rows.uptoBulk d ≤ 1048576) :
    ∃ cs t, v = .agg cs ∧ TreeAt 1048576 W.heap.size W cs t := by
  obtain ⟨fs, hu, _⟩ := underTree
  obtain ⟨cs, rfl, _⟩ := okWide_struct hu hv
  obtain ⟨n, hn⟩ := h
  obtain ⟨t, ht⟩ := tree_small hn hb
  exact ⟨cs, t, rfl, by simpa [Value.cells] using ht⟩
end
end Go.Proofs.YtdapnoocmpbijaaGreatDoor

