/- RustRightType. -/
import Derived.Test.YtidokamjbglkbaaGreatDoorY08
import Derived.Test.YtidokamjbglkbaaGreatDoorY22
import Derived.Test.YtidokamjbglkbaaGreatDoorY30
import Derived.Test.YtidokamjbglkbaaGreatDoorY25
import Derived.Test.YtidokamjbglkbaaGreatDoorY21
import Derived.Test.YtidokamjbglkbaaGreatDoorY11
import Derived.Test.YtidokamjbglkbaaGreatDoorY15
import Derived.Test.YtidokamjbglkbaaGreatDoorY16
import Derived.Test.YtidokamjbglkbaaGreatDoorY17
import Derived.Test.YtidokamjbglkbaaGreatDoorY10
import Derived.Test.YtidokamjbglkbaaGreatDoorY18
import Derived.Test.YtidokamjbglkbaaGreatDoorY20
namespace Go.Proofs.YtidokamjbglkbaaGreatDoor
open Go.RowKit

theorem Tabs.raiseT {B B' : Nat} {w : World} (h : Tabs B w) (hB : B ≤ B') : Tabs B' w := by
  obtain ⟨W, h1, h2, h3⟩ := h; exact ⟨W, h1, by omega, h3⟩

set_option maxHeartbeats 2000000 in
set_option maxRecDepth 100000 in
theorem right_type (M B : Nat) (t : RT) (kd : Int) (c : UInt8) (nm : List UInt8) (n : Nat) (fl : Bool) (kv : Value) (w : World) (hM : M ≤ 2147483647) (hT : TreeAt M B w (rv kd c nm n fl kv) t) (ht : Tabs B w) (hB : B ≤ w.heap.size) :
    Calls Tryz.prog 21 #[.agg (rv kd c nm n fl kv)] w fun e w' => ∃ bl : Bool, e = .returned (.bool bl) ∧ (bl = true → Rt 0 t ∧ isTypeK t.kd ∧ size t ≤ 300) ∧ Below w.heap.size w w' := by
  have b1 : Below w.heap.size w (w.alloc (.cells (rv kd c nm n fl kv) tRu)) := (Below.refl w.heap.size w).alloc (Nat.le_refl _) _
  have b2 := b1.alloc (by simp) (.cells #[.int .i64 300] tL)
  have hl : Lk (w.heap.size + 1) (300 : Nat) ((w.alloc (.cells (rv kd c nm n fl kv) tRu)).alloc (.cells #[.int .i64 300] tL)) := by
    have := heap_alloc_new (w.alloc (.cells (rv kd c nm n fl kv) tRu)) (.cells #[.int .i64 300] tL)
    simpa [Lk] using this
  have same : ∀ k, k < B → ((w.alloc (.cells (rv kd c nm n fl kv) tRu)).alloc (.cells #[.int .i64 300] tL)).heap[k]? = w.heap[k]? := fun k hk => b2.block k (by omega)
  have HL := Lib.hid (piece_all _ t (Nat.le_refl _) M (w.heap.size + 1) (w.heap.size + 1) 1 24 0 300 _ kd c nm n fl kv hM ((hT.mono (Nat.le_refl _) same).mono (by omega) (fun _ _ => rfl)) ((ht.same same).raiseT (by omega)) (by omega) (by simp) hl (by omega) (by omega) (by omega) (by omega))
  have HB := Lib.hid b2
  clear hl hT ht b1 b2 same
  go_enter Tryz.func21, Tryz.ntmps21
  go_wp2_with fail
  refine HL.out.mono ?_
  rintro e w1 ⟨bl, l, rfl, hb, _, k⟩
  have b3 : Below w.heap.size w w1 := HB.out.trans ((k.below (by simp)).mono (by simp))
  clear k HL
  go_wp2
  go_ret
  exact ⟨bl, rfl, fun h => ⟨(hb h).1.1, by simpa [fitsK] using (hb h).1.2, (hb h).2.1⟩, b3⟩
end Go.Proofs.YtidokamjbglkbaaGreatDoor

/- RustPiece, RustName. -/
namespace Go.Proofs.YtidokamjbglkbaaGreatDoor
open Go.RowKit

/-- What RustPiece gives of a writer. -/
def pieceText (r : WR) : List UInt8 := if r.empty then r.out ++ [95] else r.out

set_option maxHeartbeats 4000000 in
set_option maxRecDepth 100000 in
theorem rustPiece_any (kd : Int) (c : UInt8) (nm : List UInt8) (m : Nat) (fl : Bool) (ks : Value) (P : Nat → World → Prop) (e : WR → WR) (n : Nat) (hP : Steady P)
    (hw : Writes 23 (.agg (rv kd c nm m fl ks)) P e n) (hn : n + 1 ≤ 1000000000) (he : (e (W0 false)).out.length ≤ n)
    (B : Nat) (w : World) (ht : Tabs B w) (hB : B ≤ w.heap.size) (hp : P B w) :
    Calls Tryz.prog 12 #[.agg (rv kd c nm m fl ks), .slice none 0 0] w fun en w' => en = .returned (.string (bs (pieceText (e (W0 false))))) ∧ Below w.heap.size w w' := by
  have b1 : Below w.heap.size w (w.alloc (.cells (rv kd c nm m fl ks) tRu)) := (Below.refl _ _).alloc (Nat.le_refl _) _
  have F := Lib.hid (Wr.fresh (ht.same fun k hk => (b1.mono hB).block k hk) (by simp; omega : B ≤ (w.alloc (.cells (rv kd c nm m fl ks) tRu)).heap.size) false)
  have p1 := Lib.hid (hP.2 _ (w.alloc (.cells (rv kd c nm m fl ks) tRu)).heap.size _ (hP.1 _ _ ((w.alloc (.cells (rv kd c nm m fl ks) tRu)).alloc (.cells ((W0 false).cs (.slice none 0 0) (.slice none 0 0) (.slice none 0 0) (.slice none 0 0)) tW)) hp ((b1.mono hB).alloc (by simp; omega) _)) (by simp; omega))
  have HW := Lib.hid hw
  have b2 := Lib.hid (b1.alloc (by simp) (.cells ((W0 false).cs (.slice none 0 0) (.slice none 0 0) (.slice none 0 0) (.slice none 0 0)) tW))
  clear b1 hw hp ht hB hP
  have e1 : (w.alloc (.cells (rv kd c nm m fl ks) tRu)).heap.size = w.heap.size + 1 := by simp
  rw [e1] at F p1
  clear e1
  have hl : (W0 false).out.length + n ≤ 1000000000 := by simp [W0]; omega
  have hl2 : (W0 false).cnt + n ≤ 1000000000 := by simp [W0]; omega
  obtain ⟨i0, hi, hz0, hz1, hz2⟩ := info_parts infoB
  go_enter Tryz.func12, Tryz.ntmps12
  go_wp2_with (go_at_call 23; refine (HW.out _ _ (W0 false) _ F.out p1.out hl hl2).mono ?_)
  rintro en w1 ⟨rfl, h1, k1⟩
  have b3 := b2.out.trans ((k1.below (by simp)).mono (by simp))
  clear k1 F p1 HW b2
  obtain ⟨r, hr⟩ : ∃ r, r = e (W0 false) := ⟨_, rfl⟩
  rw [← hr] at h1 he
  cases hem : r.empty with
  | false =>
    have c6 : w1.cell? ⟨w.heap.size + 1, 6, none⟩ = some (.bool false) := by
      obtain ⟨vo, vt, vm, vb, ts, ms, h⟩ := h1
      rw [← hem]; exact h.c6
    obtain ⟨vo, c0, cv⟩ := h1.text
    have E2 : Hid (pieceText (e (W0 false)) = r.out) := by rw [← hr]; show pieceText r = r.out; simp [pieceText, hem]
    clear h1 hr hem
    go_wp2
    go_ret
    exact ⟨by rw [E2.out]; rfl, b3⟩
  | true =>
    have E2 : Hid (pieceText (e (W0 false)) = r.out ++ [95]) := by rw [← hr]; show pieceText r = r.out ++ [95]; simp [pieceText, hem]
    obtain ⟨vo, vt, vm, vb, ts, ms, h⟩ := h1
    have c6 := h.c6
    rw [hem] at c6
    have d0 := h.c0
    have G := h.alloc (.cells #[.int .u8 (95 : UInt8).toNat] tB)
    have B3 := Lib.hid (b3.alloc (by have := b3.size; omega) (.cells #[.int .u8 (95 : UInt8).toNat] tB))
    have own := G.out
    have p1 := Lib.hid (one_new w1 (.int .u8 (95 : UInt8).toNat) tB)
    have p3 : r.out.length + 1 ≤ maxLen := by unfold maxLen; omega
    have p4 : (r.out.length + 1) * 1 ≤ 140737488355328 := by omega
    have p5 := G.hw
    have FIN : Hid (∀ (w2 : World) (v' : Value), (w1.alloc (.cells #[.int .u8 (95 : UInt8).toNat] tB)).grownBy w2 vo.ownBlock → w2.ownsRow (w.heap.size + 1) tB 1 v' (r.out.length + 1) (bv r.out ++ [.int .u8 (95 : UInt8).toNat]) →
        w2.heap[w.heap.size + 1]? = some (.cells (r.cs vo vt vm vb) tW (0, 0)) ∧ (w2.setCell ⟨w.heap.size + 1, 0, none⟩ v').cell? ⟨w.heap.size + 1, 0, none⟩ = some v' ∧
          (convert 39 9 v').run Tryz.prog (w2.setCell ⟨w.heap.size + 1, 0, none⟩ v') = .ok (.string (bs (r.out ++ [95]))) (w2.setCell ⟨w.heap.size + 1, 0, none⟩ v') ∧ Below w.heap.size w (w2.setCell ⟨w.heap.size + 1, 0, none⟩ v')) := by
      intro w2 v' hg hown
      have hown2 : w2.ownsRow (w.heap.size + 1) tB 1 v' (r.out ++ [95]).length (bv (r.out ++ [95])) := by
        have e1 : (r.out ++ [(95 : UInt8)]).length = r.out.length + 1 := by simp
        rw [e1]; simpa [bv] using hown
      obtain ⟨hb, h2⟩ := G.setOut hg hown2 (by simp)
      refine ⟨hb, h2.c0, conv_row h2.out, ?_⟩
      have g1 := B3.out.grown hg (by have := B3.out.size; exact this) (fun k e => by have := (rowKind G.out k e).1; omega)
      exact g1.setCell (p := ⟨w.heap.size + 1, 0, none⟩) (by simp) _
    clear h G b3 B3 hem hr
    go_wp2_with (at_builtin; refine wpList_append_own _ rfl _ _ 39 rfl (w.heap.size + 1) tB i0 (.int .u8 0) 1 1 Tryz.underlying39 hi hz0 hz1 hz2 rfl (by decide) _ _ _ rfl own ⟨w1.heap.size, 0, none⟩ 1 1 [.int .u8 (95 : UInt8).toNat] rfl rfl p1.out (by intro u hu; simp at hu; subst hu; rfl) p3 p4 p5 ?_)
    intro v' w2 hown' hg _
    obtain ⟨hb2, c0, cv, b4⟩ := (FIN.out : ∀ _ _, _ → _ → _) w2 v' hg (by simpa using hown')
    have d0' : w2.cell? ⟨w.heap.size + 1, 0, none⟩ = some vo := by rw [cellAt hb2]; rfl
    have g0' : w2.frozen? ⟨w.heap.size + 1, 0, none⟩ = false := Lib.frozen_of_heap hb2 0
    obtain ⟨ao', n', cap', rfl⟩ : ∃ ao n cap, v' = .slice ao n cap := by
      rcases hown'.2 with ⟨hv, _⟩ | ⟨g, cap, cur, hv, _⟩
      · exact ⟨_, _, _, hv⟩
      · exact ⟨_, _, _, hv⟩
    clear FIN hown' hg hb2 own p1
    go_wp2
    go_ret
    exact ⟨by rw [E2.out]; rfl, b4⟩
end Go.Proofs.YtidokamjbglkbaaGreatDoor

/- RustFitsType; RustPiece of a right tree. -/
namespace Go.Proofs.YtidokamjbglkbaaGreatDoor
open Go.RowKit

/-- A right and roomy type. -/
structure FitT (t : RT) : Prop where
  rt : Rt 0 t
  kd : isTypeK t.kd
  sz : size t ≤ 300
  room : Roomy (enc idW t).length (bnds idW 0 0 t)
/-- A tree as RustPiece writes it. -/
def pieceOf (t : RT) : List UInt8 := if emp t then enc idW t ++ [95] else enc idW t

set_option maxHeartbeats 4000000 in
set_option maxRecDepth 100000 in
theorem piece_big {M b0 : Nat} (t : RT) (hb : b0 ≤ 20) (hrt : Rt b0 t) (hk : isTypeK t.kd) (hs : size t ≤ 310) (kd : Int) (c : UInt8) (nm : List UInt8) (n : Nat) (fl : Bool) (ks : Value)
    (B : Nat) (w : World) (ht : Tabs B w) (hB : B ≤ w.heap.size) (hp : TreeAt M B w (rv kd c nm n fl ks) t) :
    Calls Tryz.prog 12 #[.agg (rv kd c nm n fl ks), .slice none 0 0] w fun en w' => en = .returned (.string (bs (pieceOf t))) ∧ Below w.heap.size w w' := by
  have hel := (enc_ok _ t (Nat.le_refl _) b0 hb hrt).2
  have hw := (wrote_all _ t b0 (Nat.le_refl _) hrt hb).piece hk
  have e0 : pieceText ((W0 false).tree t) = pieceOf t := by unfold pieceText pieceOf; simp [WR.tree, W0]
  have := rustPiece_any kd c nm n fl ks (fun B w => TreeAt M B w (rv kd c nm n fl ks) t) (fun r => r.tree t) 105000000 ⟨fun B w w' h1 h2 => h1.mono (Nat.le_refl _) fun k hk => h2.block k hk, fun B B' w h1 h2 => h1.mono h2 fun _ _ => rfl⟩ ?_ (by omega) (by simp [WR.tree, W0]; omega) B w ht hB hp
  · rw [e0] at this
    exact this
  · intro B b r w h1 h2 h3 h4
    exact hw M B b r w kd c nm n fl ks h2 h1 (by unfold room; omega)
theorem piece_text {M b0 : Nat} (t : RT) (hb : b0 ≤ 20) (hrt : Rt b0 t) (hk : isTypeK t.kd) (hs : size t ≤ 300) (kd : Int) (c : UInt8) (nm : List UInt8) (n : Nat) (fl : Bool) (ks : Value)
    (B : Nat) (w : World) (ht : Tabs B w) (hB : B ≤ w.heap.size) (hp : TreeAt M B w (rv kd c nm n fl ks) t) :
    Calls Tryz.prog 12 #[.agg (rv kd c nm n fl ks), .slice none 0 0] w fun en w' => en = .returned (.string (bs (pieceOf t))) ∧ Below w.heap.size w w' :=
  piece_big t hb hrt hk (by omega) kd c nm n fl ks B w ht hB hp

set_option maxHeartbeats 4000000 in
set_option maxRecDepth 100000 in
theorem fitsType_any {M : Nat} (t : RT) (kd : Int) (c : UInt8) (nm : List UInt8) (n : Nat) (fl : Bool) (kv : Value) (hM : M ≤ 2147483647) (B : Nat) (w : World) (ht : Tabs B w) (hB : B ≤ w.heap.size) (hT : TreeAt M B w (rv kd c nm n fl kv) t) :
    Calls Tryz.prog 10 #[.agg (rv kd c nm n fl kv)] w fun e w' => ∃ bl : Bool, e = .returned (.bool bl) ∧ (bl = true → FitT t) ∧ Below w.heap.size w w' := by
  have b1 : Below w.heap.size w (w.alloc (.cells (rv kd c nm n fl kv) tRu)) := (Below.refl w.heap.size w).alloc (Nat.le_refl _) _
  have bx : (w.alloc (.cells (rv kd c nm n fl kv) tRu)).heap[w.heap.size]? = some (.cells (rv kd c nm n fl kv) tRu (0, 0)) := tree_new w _
  have HR := Lib.hid (right_type M B t kd c nm n fl kv _ hM (hT.mono (Nat.le_refl _) fun k hk => (b1.mono hB).block k hk) (ht.same fun k hk => (b1.mono hB).block k hk) (by have := b1.size; omega))
  have TT := Lib.hid (fun (w' : World) (b : Below w.heap.size w w') => (⟨hT.mono (Nat.le_refl _) fun k hk => b.block k (by omega), ht.same fun k hk => b.block k (by omega), by have := b.size; omega⟩ : TreeAt M B w' (rv kd c nm n fl kv) t ∧ Tabs B w' ∧ B ≤ w'.heap.size))
  have B1 := Lib.hid b1
  have BX := Lib.hid bx
  clear b1 bx hT ht hB hM
  go_enter Tryz.func10, Tryz.ntmps10
  go_wp2_with fail
  refine HR.out.mono ?_
  rintro e w1 ⟨bl, rfl, hb, b2⟩
  have bx1 := (b2.block w.heap.size (by simp)).trans BX.out
  have B2 := Lib.hid (B1.out.trans (b2.mono (by simp)))
  clear b2 HR
  cases bl with
  | false =>
    clear hb
    go_wp2
    go_ret
    exact ⟨false, rfl, fun h => absurd h (by decide), B2.out⟩
  | true =>
    obtain ⟨h1, h2, h3⟩ := hb rfl
    obtain ⟨t1, t2, t3⟩ := TT.out _ B2.out
    have HO := Lib.hid (rustRoomy_any t 0 (by omega) h1 h2 h3 kd c nm n fl kv B w1 t2 t3 t1)
    have HF := Lib.hid (fun h => FitT.mk h1 h2 h3 h)
    have a0 := cellAt bx1 0
    have a1 := cellAt bx1 1
    have a2 := cellAt bx1 2
    have a3 := cellAt bx1 3
    have a4 := cellAt bx1 4
    have a5 := cellAt bx1 5
    simp at a0 a1 a2 a3 a4 a5
    clear hb h1 h2 h3 t1 t2 t3 bx1 TT
    go_wp2_with fail
    refine HO.out.mono ?_
    rintro e w2 ⟨bl, rfl, hr, b3⟩
    have HFR := Lib.hid (fun h => HF.out (hr h))
    have B3 := Lib.hid (B2.out.trans (b3.mono (by have := B2.out.size; omega)))
    clear hr b3 HO
    cases bl with
    | false =>
      go_wp2
      go_ret
      exact ⟨false, rfl, fun h => absurd h (by decide), B3.out⟩
    | true =>
      go_wp2
      go_ret
      exact ⟨true, rfl, fun _ => HFR.out (by trivial), B3.out⟩
end Go.Proofs.YtidokamjbglkbaaGreatDoor

/- A right type, as RustPiece writes it, is read as it is told: as an argument, as a type. -/
namespace Go.Proofs.YtidokamjbglkbaaGreatDoor

theorem pieceOf_eq (t : RT) : pieceOf t = enc idW t ++ (if emp t then [95] else []) := by
  unfold pieceOf
  split <;> simp
theorem FitT.told {t : RT} (h : FitT t) (k : List UInt8) : Told t 0 false (if emp t then [95] else []) k := by
  refine told_all (off := 0) (T := (enc idW t).length) h.rt (by omega) (by omega) (fun _ => rfl) (by have := h.sz; omega) h.room (by omega) ?_
  unfold Sep
  split
  · exact .inl rfl
  · rfl
theorem FitT.mark {t : RT} (h : FitT t) : argMark t.kd = [] := by
  have := h.kd
  unfold isTypeK at this
  unfold argMark
  rw [if_neg (by omega)]
/-- The text of a right type. -/
def tell (t : RT) : List UInt8 := txt .t 0 t
theorem FitT.type {t : RT} (h : FitT t) (k : List UInt8) : Says 86 #[] 0 false (pieceOf t ++ k) k (tell t) NS := by
  have := (h.told k).type h.kd
  rw [pieceOf_eq, List.append_assoc]
  exact this
theorem FitT.arg {t : RT} (h : FitT t) (k : List UInt8) : Says 111 #[] 0 false (pieceOf t ++ k) k (tell t) T0 := by
  have := (h.told k).arg (.inl h.kd)
  rw [h.mark] at this
  rw [pieceOf_eq, List.append_assoc]
  exact this
theorem FitT.head {t : RT} (h : FitT t) : ∃ c l, pieceOf t = c :: l ∧ typeHd c := by
  obtain ⟨c, l, e, hd⟩ := enc_head (idw := idW) h.rt
  exact ⟨c, l ++ (if emp t then [95] else []), by rw [pieceOf_eq, e]; rfl, hd.type h.kd⟩
theorem typeHd.ne69 {c : UInt8} (h : typeHd c) : c.toNat ≠ 69 := by
  unfold typeHd pathHd at h; omega
theorem FitT.no46 {t : RT} (h : FitT t) : ∀ x ∈ pieceOf t, x ≠ 46 := by
  intro x hx
  rw [pieceOf_eq, List.mem_append] at hx
  rcases hx with hx | hx
  · have := (enc_ok _ t (Nat.le_refl _) 0 (by omega) h.rt).1 x hx
    intro e; subst e; exact this rfl
  · split at hx <;> simp at hx
    subst hx; decide
theorem FitT.len {t : RT} (h : FitT t) : (pieceOf t).length ≤ 330000 := by
  have := (enc_ok _ t (Nat.le_refl _) 0 (by omega) h.rt).2
  have h2 := h.sz
  rw [pieceOf_eq, List.length_append]
  split <;> simp <;> omega
theorem FitT.tlen {t : RT} (h : FitT t) : (tell t).length ≤ 360000 := by
  have := txt_ok _ t (Nat.le_refl _) 0 (by omega) h.rt .t 0
  have h2 := h.sz
  unfold tell
  omega
theorem FitT.read {t : RT} (h : FitT t) : ReadAs (nameOf (pieceOf t)) (toldOf (tell t)) := by
  obtain ⟨c, l, e, hd⟩ := h.head
  have ha := h.arg [69]
  refine read_args (pieceOf t) (tell t) [tell t] ?_ (by simp [joined, tailText]) h.no46 (by have := h.len; omega) (by have := h.tlen; omega)
  rw [e] at ha ⊢
  exact Run.cons c _ _ _ _ _ hd.ne69 ha (Run.nil [])
end Go.Proofs.YtidokamjbglkbaaGreatDoor

/- RustFits; RustName of a right tree; a right path is read as it is told. -/
namespace Go.Proofs.YtidokamjbglkbaaGreatDoor
open Go.RowKit

/-- A right and roomy path. -/
structure FitP (t : RT) : Prop where
  fit : FitT t
  pk : isPathK t.kd
theorem path_typeK {k : Int} (h : isPathK k) : isTypeK k := by unfold isPathK at h; unfold isTypeK; omega
theorem path_arg {k : Int} (h : isPathK k) : isArgK k := .inl (path_typeK h)

set_option maxHeartbeats 4000000 in
set_option maxRecDepth 100000 in
theorem rustFits_any {M : Nat} (t : RT) (kd : Int) (c : UInt8) (nm : List UInt8) (n : Nat) (fl : Bool) (kv : Value) (hM : M ≤ 2147483647) (B : Nat) (w : World) (ht : Tabs B w) (hB : B ≤ w.heap.size) (hT : TreeAt M B w (rv kd c nm n fl kv) t) :
    Calls Tryz.prog 14 #[.agg (rv kd c nm n fl kv), .slice none 0 0] w fun e w' => ∃ bl : Bool, e = .returned (.bool bl) ∧ (bl = true → FitP t) ∧ Below w.heap.size w w' := by
  have b1 : Below w.heap.size w (w.alloc (.cells (rv kd c nm n fl kv) tRu)) := (Below.refl w.heap.size w).alloc (Nat.le_refl _) _
  have bx : (w.alloc (.cells (rv kd c nm n fl kv) tRu)).heap[w.heap.size]? = some (.cells (rv kd c nm n fl kv) tRu (0, 0)) := tree_new w _
  have HR := Lib.hid (right_path M B t kd c nm n fl kv _ hM (hT.mono (Nat.le_refl _) fun k hk => (b1.mono hB).block k hk) (ht.same fun k hk => (b1.mono hB).block k hk) (by have := b1.size; omega))
  have TT := Lib.hid (fun (w' : World) (b : Below w.heap.size w w') => (⟨hT.mono (Nat.le_refl _) fun k hk => b.block k (by omega), ht.same fun k hk => b.block k (by omega), by have := b.size; omega⟩ : TreeAt M B w' (rv kd c nm n fl kv) t ∧ Tabs B w' ∧ B ≤ w'.heap.size))
  have B1 := Lib.hid b1
  have BX := Lib.hid bx
  clear b1 bx hT ht hB hM
  go_enter Tryz.func14, Tryz.ntmps14
  go_wp2_with fail
  refine HR.out.mono ?_
  rintro e w1 ⟨bl, rfl, hb, b2⟩
  have bx1 := (b2.block w.heap.size (by simp)).trans BX.out
  have B2 := Lib.hid (B1.out.trans (b2.mono (by simp)))
  clear b2 HR
  cases bl with
  | false =>
    clear hb
    go_wp2
    go_ret
    exact ⟨false, rfl, fun h => absurd h (by decide), B2.out⟩
  | true =>
    obtain ⟨h1, h2, h3⟩ := hb rfl
    obtain ⟨t1, t2, t3⟩ := TT.out _ B2.out
    have HO := Lib.hid (rustRoomy_any t 0 (by omega) h1 (path_typeK h2) h3 kd c nm n fl kv B w1 t2 t3 t1)
    have HF := Lib.hid (fun h => FitP.mk (FitT.mk h1 (path_typeK h2) h3 h) h2)
    have a0 := cellAt bx1 0
    have a1 := cellAt bx1 1
    have a2 := cellAt bx1 2
    have a3 := cellAt bx1 3
    have a4 := cellAt bx1 4
    have a5 := cellAt bx1 5
    simp at a0 a1 a2 a3 a4 a5
    clear hb h1 h2 h3 t1 t2 t3 bx1 TT
    go_wp2_with fail
    refine HO.out.mono ?_
    rintro e w2 ⟨bl, rfl, hr, b3⟩
    have HFR := Lib.hid (fun h => HF.out (hr h))
    have B3 := Lib.hid (B2.out.trans (b3.mono (by have := B2.out.size; omega)))
    clear hr b3 HO
    cases bl with
    | false =>
      go_wp2
      go_ret
      exact ⟨false, rfl, fun h => absurd h (by decide), B3.out⟩
    | true =>
      go_wp2
      go_ret
      exact ⟨true, rfl, fun _ => HFR.out (by trivial), B3.out⟩

/-- What is left when the trees that were read are known to fit. -/
theorem roomy_any {M : Nat} (t : RT) (hrt : Rt 0 t) (hk : isPathK t.kd) (hs : size t ≤ 300) (kd : Int) (c : UInt8) (nm : List UInt8) (n : Nat) (fl : Bool) (kv : Value) (B : Nat) (w : World) (ht : Tabs B w) (hB : B ≤ w.heap.size) (hT : TreeAt M B w (rv kd c nm n fl kv) t) :
    Calls Tryz.prog 20 #[.agg (rv kd c nm n fl kv), .slice none 0 0] w fun e w' => ∃ bl : Bool, e = .returned (.bool bl) ∧ (bl = true → FitP t) ∧ Below w.heap.size w w' :=
  (rustRoomy_any t 0 (by omega) hrt (path_typeK hk) hs kd c nm n fl kv B w ht hB hT).mono fun _ _ ⟨bl, e, h, b⟩ => ⟨bl, e, fun hb => ⟨⟨hrt, path_typeK hk, hs, h hb⟩, hk⟩, b⟩

/-- The text of a right path that is a whole name. -/
def tellP (t : RT) : List UInt8 := txt (.p true) 0 t
theorem FitP.told {t : RT} (h : FitP t) (k : List UInt8) : Told t 0 false (if emp t then [95] else []) k := h.fit.told k
/-- A path, as a piece of a name: read where values are named, and where types are. -/
theorem FitP.path {t : RT} (h : FitP t) (sep : Bool) (k : List UInt8) : Says 74 #[.bool sep] 0 false (pieceOf t ++ k) k (txt (.p sep) 0 t) NS := by
  have := (h.told k).path h.pk sep
  rw [pieceOf_eq, List.append_assoc]
  exact this
theorem FitP.tlenP {t : RT} (h : FitP t) (m : Md) : (txt m 0 t).length ≤ 360000 := by
  have := txt_ok _ t (Nat.le_refl _) 0 (by omega) h.fit.rt m 0
  have h2 := h.fit.sz
  omega
theorem nameB_nil {nm : List UInt8} (h : nameB nm = true) : nm ≠ [] := by
  intro e; subst e; exact absurd h (by decide)
theorem FitP.ne {t : RT} (h : FitP t) (m : Md) : txt m 0 t ≠ [] := by
  have hr := h.fit.rt
  have hk := h.pk
  cases hr with
  | crate b c nm n fl hn hm => simp [txt]; exact nameB_nil hm
  | impl | timpl | tdef => simp [txt]
  | nested b c nm n fl p hn hc hp kp =>
    simp only [txt]
    unfold nestText
    intro he
    simp at he
    split at he <;> simp at he
  | gen b c nm n fl p gs => 
    simp only [txt]
    intro he
    simp at he
  | _ => exact absurd hk (by unfold isPathK; simp [RT.kd])
theorem pathHd.ne48 {c : UInt8} (h : pathHd c) : c.toNat < 48 ∨ 57 < c.toNat := by unfold pathHd at h; omega
/-- A right path is read as a whole name. -/
theorem FitP.readP {t : RT} (h : FitP t) : ReadAs (95 :: 82 :: enc idW t) (tellP t) := by
  intro B w hT hB
  obtain ⟨c, l, e, hd⟩ := enc_head (idw := idW) h.fit.rt
  have hs : Sep (emp t) [] [] := by
    unfold Sep
    split
    · exact .inr ⟨rfl, by simp [noDig], by simp⟩
    · rfl
  have ht : Told t 0 false [] [] := told_all (off := 0) (T := (enc idW t).length) h.fit.rt (by omega) (by omega) (fun _ => rfl) (by have := h.fit.sz; omega) h.fit.room (by omega) hs
  have hp := ht.path h.pk true
  have hlen := h.fit.len
  rw [pieceOf_eq, List.length_append] at hlen
  have h46 := (enc_ok _ t (Nat.le_refl _) 0 (by omega) h.fit.rt).1
  simp only [List.append_nil] at hp
  rw [e] at hp hlen h46 ⊢
  refine toString_any c l (tellP t) NS hp (hd.path h.pk).ne48 ?_ (by simp at hlen; omega) (h.ne _) (by have := h.tlenP (.p true); unfold tellP; omega) B w hT hB
  intro x hx
  simp only [List.mem_cons] at hx
  rcases hx with rfl | rfl | hx
  · decide
  · decide
  · have := h46 x (by simpa using hx)
    intro e; subst e; exact this rfl
end Go.Proofs.YtidokamjbglkbaaGreatDoor

/- Right types, one behind the other, as RustPiece writes them, are read: as a tuple, as arguments, as functions. -/
namespace Go.Proofs.YtidokamjbglkbaaGreatDoor
open Go.RowKit

/-- A type by itself, as the one argument. -/
theorem read_type (c : UInt8) (l txt : List UInt8) (h : Says 86 #[] 0 false (c :: (l ++ [69])) [69] txt NS) (hL : ((c.toNat : Int) == 76) = false) (hK : ((c.toNat : Int) == 75) = false) (hE : c.toNat ≠ 69) (h46 : ∀ x ∈ c :: l, x ≠ 46)
    (hl : (c :: l).length ≤ 10000000) (ht : txt.length ≤ 100000000) : ReadAs (nameOf (c :: l)) (toldOf txt) := by
  have ha := genericArg_T 0 false c (l ++ [69]) [69] txt NS h hL hK
  exact read_args (c :: l) txt [txt] (Run.cons c _ _ _ _ _ hE ha.any (Run.nil [])) (by simp [joined, tailText]) h46 hl ht
theorem read_wrap {t : RT} (hf : FitT t) (c : UInt8) (l txt : List UInt8) (h : Says 86 #[] 0 false (c :: (l ++ (pieceOf t ++ [69]))) [69] txt NS) (hL : ((c.toNat : Int) == 76) = false) (hK : ((c.toNat : Int) == 75) = false) (hE : c.toNat ≠ 69) (h46 : ∀ x ∈ c :: l, x ≠ 46)
    (hl : l.length ≤ 100) (ht : txt.length ≤ 100000000) : ReadAs (nameOf (c :: (l ++ pieceOf t))) (toldOf txt) := by
  refine read_type c (l ++ pieceOf t) txt (by rw [List.append_assoc]; exact h) hL hK hE ?_ (by have := hf.len; simp; omega) ht
  intro x hx
  rcases List.mem_cons.1 hx with rfl | hx
  · exact h46 x (by simp)
  · rcases List.mem_append.1 hx with hx | hx
    · exact h46 x (by simp [hx])
    · exact hf.no46 x hx
theorem typeHd.ne76 {c : UInt8} (h : typeHd c) : ((c.toNat : Int) == 76) = false := by
  rw [beq_eq_false_iff_ne]
  unfold typeHd pathHd at h; omega

theorem FitT.run {t : RT} (hf : FitT t) (k : List UInt8) : Run 86 0 false (pieceOf t ++ 69 :: k) (69 :: k) [tell t] := by
  obtain ⟨c, l, e, hd⟩ := hf.head
  have h1 := hf.type (69 :: k)
  rw [e, List.cons_append] at h1 ⊢
  exact Run.cons c _ _ _ _ _ hd.ne69 h1.any (Run.nil k)

/-- Types, one behind the other, as they are written, and as they are told. -/
def pieces (ts : List RT) : List UInt8 := (ts.map pieceOf).flatten
def tells (ts : List RT) : List (List UInt8) := ts.map tell
@[simp] theorem pieces_nil : pieces [] = [] := rfl
theorem pieces_cons (t : RT) (ts : List RT) : pieces (t :: ts) = pieceOf t ++ pieces ts := rfl
theorem tells_cons (t : RT) (ts : List RT) : tells (t :: ts) = tell t :: tells ts := rfl
theorem tells_len (ts : List RT) : (tells ts).length = ts.length := by simp [tells]
theorem runT (ts : List RT) (h : ∀ t ∈ ts, FitT t) (k : List UInt8) : Run 86 0 false (pieces ts ++ 69 :: k) (69 :: k) (tells ts) := by
  induction ts with
  | nil => exact Run.nil k
  | cons t ts ih =>
    obtain ⟨c, l, e, hd⟩ := (h t (by simp)).head
    have h1 := (h t (by simp)).type (pieces ts ++ 69 :: k)
    rw [pieces_cons, tells_cons, List.append_assoc]
    rw [e, List.cons_append] at h1 ⊢
    exact Run.cons c _ _ _ _ _ hd.ne69 h1.any (ih fun x hx => h x (List.mem_cons_of_mem _ hx))
theorem runA (ts : List RT) (h : ∀ t ∈ ts, FitT t) (k : List UInt8) : Run 111 0 false (pieces ts ++ 69 :: k) (69 :: k) (tells ts) := by
  induction ts with
  | nil => exact Run.nil k
  | cons t ts ih =>
    obtain ⟨c, l, e, hd⟩ := (h t (by simp)).head
    have h1 := (h t (by simp)).arg (pieces ts ++ 69 :: k)
    rw [pieces_cons, tells_cons, List.append_assoc]
    rw [e, List.cons_append] at h1 ⊢
    exact Run.cons c _ _ _ _ _ hd.ne69 h1 (ih fun x hx => h x (List.mem_cons_of_mem _ hx))
theorem pieces_no46 (ts : List RT) (h : ∀ t ∈ ts, FitT t) : ∀ x ∈ pieces ts, x ≠ 46 := by
  intro x hx
  simp only [pieces, List.mem_flatten, List.mem_map] at hx
  obtain ⟨l, ⟨t, ht, rfl⟩, hx⟩ := hx
  exact (h t ht).no46 x hx
theorem pieces_len (ts : List RT) (h : ∀ t ∈ ts, FitT t) : (pieces ts).length ≤ 330000 * ts.length := by
  induction ts with
  | nil => simp
  | cons t ts ih =>
    have h1 := (h t (by simp)).len
    have h2 := ih fun x hx => h x (List.mem_cons_of_mem _ hx)
    rw [pieces_cons, List.length_append, List.length_cons]
    omega
theorem tells_tail (ts : List RT) (h : ∀ t ∈ ts, FitT t) : (tailText [44, 32] (tells ts)).length ≤ 360002 * ts.length := by
  induction ts with
  | nil => simp [tells, tailText]
  | cons t ts ih =>
    have h1 := (h t (by simp)).tlen
    have h2 := ih fun x hx => h x (List.mem_cons_of_mem _ hx)
    rw [tells_cons, List.length_cons]
    unfold tailText at h2 ⊢
    simp only [List.flatMap_cons, List.length_append, List.length_cons, List.length_nil]
    omega
theorem tells_joined (ts : List RT) (h : ∀ t ∈ ts, FitT t) : (joined [44, 32] (tells ts)).length ≤ 360002 * ts.length := by
  cases ts with
  | nil => simp [tells, joined]
  | cons t ts =>
    have h1 := (h t (by simp)).tlen
    have h2 := tells_tail ts fun x hx => h x (List.mem_cons_of_mem _ hx)
    rw [tells_cons, List.length_cons]
    simp only [joined, List.length_append]
    omega
theorem read_tuple (ts : List RT) (h : ∀ t ∈ ts, FitT t) (h8 : ts.length ≤ 8) (h1 : ts.length ≠ 1) : ReadAs (nameOf (84 :: (pieces ts ++ [69]))) (toldOf (40 :: (joined [44, 32] (tells ts) ++ [41]))) := by
  have hp := pieces_len ts h
  have hj := tells_joined ts h
  refine read_type 84 (pieces ts ++ [69]) _ ?_ (by decide) (by decide) (by decide) ?_ (by simp; omega) (by simp; omega)
  · rw [List.append_assoc]
    exact type_T 0 false (pieces ts ++ 69 :: [69]) [69] _ (tells ts) (runT ts h [69]) (by rw [tells_len]; omega) (by rw [tells_len, if_neg h1]; rfl)
  · intro x hx
    simp only [List.mem_cons, List.mem_append, List.not_mem_nil, or_false] at hx
    rcases hx with rfl | hx | rfl
    · decide
    · exact pieces_no46 ts h x hx
    · decide
theorem read_arguments (ts : List RT) (h : ∀ t ∈ ts, FitT t) (h8 : ts.length ≤ 8) : ReadAs (nameOf (pieces ts)) (toldOf (joined [44, 32] (tells ts))) := by
  have hp := pieces_len ts h
  have hj := tells_joined ts h
  exact read_args (pieces ts) _ (tells ts) (runA ts h []) rfl (pieces_no46 ts h) (by omega) (by omega)

/-- A type of functions whose words are hd (nothing, U, KC, UKC), as they are told. -/
def sigText (hd : List UInt8) : List UInt8 := if hd = [] then [] else if hd = [85] then [117, 110, 115, 97, 102, 101, 32] else if hd = [75, 67] then [101, 120, 116, 101, 114, 110, 32, 34, 67, 34, 32] else [117, 110, 115, 97, 102, 101, 32] ++ [101, 120, 116, 101, 114, 110, 32, 34, 67, 34, 32]
theorem typeHd.ne85 {c : UInt8} (h : typeHd c) : c.toNat ≠ 85 ∧ c.toNat ≠ 75 := by
  unfold typeHd pathHd at h; omega
theorem typeHd.ne71 {c : UInt8} (h : typeHd c) : ((c.toNat : Int) != 71) = true := by
  rw [bne_iff_ne]
  unfold typeHd pathHd at h; omega
theorem sig_says (hd : List UInt8) (hh : hd = [] ∨ hd = [85] ∨ hd = [75, 67] ∨ hd = [85, 75, 67]) (ts : List RT) (h : ∀ t ∈ ts, FitT t) (k1 k rt : List UInt8) (hr : Res 0 false k1 k rt) :
    Says 86 #[] 0 false (70 :: (hd ++ (pieces ts ++ 69 :: k1))) k (sigText hd ++ ([102, 110, 40] ++ (joined [44, 32] (tells ts) ++ (41 :: rt)))) NS := by
  obtain ⟨c, l, e, hc⟩ : ∃ c l, pieces ts ++ 69 :: k1 = c :: l ∧ (c.toNat ≠ 85 ∧ c.toNat ≠ 75) ∧ ((c.toNat : Int) != 71) = true := by
    cases ts with
    | nil => exact ⟨69, k1, rfl, by decide, by decide⟩
    | cons t ts =>
      obtain ⟨c, l, e, hd⟩ := (h t (by simp)).head
      exact ⟨c, l ++ (pieces ts ++ 69 :: k1), by rw [pieces_cons, e]; simp, hd.ne85, hd.ne71⟩
  have hrun := runT ts h k1
  rw [e] at hrun ⊢
  refine type_F 0 0 false _ k _ _ ?_ rfl
  rcases hh with rfl | rfl | rfl | rfl
  · exact fnSig_00 0 0 false (c :: l) l k k1 [] _ c (tells ts) rt (binder_none 0 false c l hc.2) hc.1.1 hc.1.2 hrun hr (by simp [sigText])
  · exact fnSig_U0 0 0 false (85 :: c :: l) l k k1 [] _ c (tells ts) rt (binder_none 0 false 85 (c :: l) (by decide)) hc.1.1 hc.1.2 hrun hr (by simp [sigText])
  · exact fnSig_0C 0 0 false (75 :: 67 :: c :: l) l k k1 [] _ c (tells ts) rt (binder_none 0 false 75 (67 :: c :: l) (by decide)) hc.1.1 hc.1.2 hrun hr (by simp [sigText])
  · exact fnSig_UC 0 0 false (85 :: 75 :: 67 :: c :: l) l k k1 [] _ c (tells ts) rt (binder_none 0 false 85 (75 :: 67 :: c :: l) (by decide)) hc.1.1 hc.1.2 hrun hr (by simp [sigText])
theorem read_sig (hd : List UInt8) (hh : hd = [] ∨ hd = [85] ∨ hd = [75, 67] ∨ hd = [85, 75, 67]) (ts : List RT) (h : ∀ t ∈ ts, FitT t) (h8 : ts.length ≤ 8) (res rt : List UInt8) (hr : Res 0 false (res ++ [69]) [69] rt) (h46 : ∀ x ∈ res, x ≠ 46) (hl : res.length ≤ 330000) (hl2 : rt.length ≤ 360010) :
    ReadAs (nameOf (70 :: (hd ++ (pieces ts ++ (69 :: res))))) (toldOf (sigText hd ++ ([102, 110, 40] ++ (joined [44, 32] (tells ts) ++ (41 :: rt))))) := by
  have hp := pieces_len ts h
  have hj := tells_joined ts h
  have h1 : hd.length ≤ 3 := by rcases hh with rfl | rfl | rfl | rfl <;> simp
  have h2 : (sigText hd).length ≤ 30 := by rcases hh with rfl | rfl | rfl | rfl <;> simp [sigText]
  have h3 : ∀ x ∈ hd, x ≠ 46 := by
    intro x hx
    rcases hh with rfl | rfl | rfl | rfl <;> simp at hx
    · subst hx; decide
    · rcases hx with rfl | rfl <;> decide
    · rcases hx with rfl | rfl | rfl <;> decide
  refine read_type 70 (hd ++ (pieces ts ++ (69 :: res))) _ ?_ (by decide) (by decide) (by decide) ?_ (by simp; omega) (by simp; omega)
  · have := sig_says hd hh ts h (res ++ [69]) [69] rt hr
    simpa using this
  · intro x hx
    simp only [List.mem_cons, List.mem_append] at hx
    rcases hx with rfl | hx | hx | rfl | hx
    · decide
    · exact h3 x hx
    · exact pieces_no46 ts h x hx
    · decide
    · exact h46 x hx
end Go.Proofs.YtidokamjbglkbaaGreatDoor

/- Right paths as parts of a name, read: a method of a type, a name in a path. -/
namespace Go.Proofs.YtidokamjbglkbaaGreatDoor
open Go.RowKit

/-- A right path that is not told. -/
theorem FitP.quiet {p : RT} (h : FitP p) (k : List UInt8) : Says 85 #[] 0 false (pieceOf p ++ k) k [] T0 := by
  have ht : Told p 0 true (if emp p then [95] else []) k := by
    refine told_all (off := 0) (T := (enc idW p).length) h.fit.rt (by omega) (by omega) (fun e => by cases e) (by have := h.fit.sz; omega) h.fit.room (by omega) ?_
    unfold Sep
    split
    · exact .inl rfl
    · rfl
  have hp := ht.path h.pk false
  rw [pieceOf_eq, List.append_assoc]
  have := impl_any 0 false 0 _ k _ NS (by omega) (impl_head h.fit.rt h.pk _) hp
  simpa [dis] using this
/-- A name of one small letter. -/
theorem names_one (c : UInt8) (hc : 97 ≤ c.toNat ∧ c.toNat ≤ 122) (k : List UInt8) : Names (49 :: c :: k) k 0 [c] := by
  have hu : Undis ([49] ++ ([] ++ (c :: k))) ((c :: k).drop 1) ((c :: k).take 1) false := by
    refine undis_mk 1 [49] [] (c :: k) (by simp) ?_ (by decide) ?_ (by simp) (by decide) (.inr ⟨rfl, ?_, ?_⟩)
    · intro x hx; simp at hx; subst hx; decide
    · intro j hj hj2
      obtain rfl : j = 0 := by omega
      exact .inr (.inr (.inl (by show 97 ≤ c.toNat ∧ c.toNat ≤ 122; exact hc)))
    · intro x hx; simp at hx; subst hx; unfold is10; omega
    · intro x hx; simp at hx; subst hx; omega
  have := names_mk 0 _ _ _ _ hu (by decide) ⟨49, c :: k, rfl, by decide⟩
  simpa [dis] using this
/-- The member f of what a path names. -/
theorem read_member (l txt : List UInt8) (h : Says 74 #[.bool true] 0 false (l ++ [49, 102]) [49, 102] txt NS) (h46 : ∀ x ∈ l, x ≠ 46) (hl : l.length ≤ 10000000) (ht : txt.length ≤ 100000000) :
    ReadAs (95 :: 82 :: 78 :: 118 :: (l ++ [49, 102])) (txt ++ [58, 58, 102]) := by
  intro B w hT hB
  refine toString_any 78 (118 :: (l ++ [49, 102])) (txt ++ [58, 58, 102]) NS ?_ (by decide) ?_ (by simp; omega) (by simp) (by simp; omega) B w hT hB
  · exact path_N_low true 0 false 118 (by decide) (by decide) (l ++ [49, 102]) [49, 102] [] txt [102] _ 0 NS h (names_one 102 (by decide) []) (by simp) (by decide) rfl
  · intro x hx
    simp only [List.mem_cons, List.mem_append, List.not_mem_nil, or_false] at hx
    rcases hx with rfl | rfl | rfl | rfl | hx | rfl | rfl
    all_goals first
      | decide
      | exact h46 x hx
theorem read_method {p t : RT} (hp : FitP p) (ht : FitT t) : ReadAs (95 :: 82 :: 78 :: 118 :: 77 :: (pieceOf p ++ (pieceOf t ++ [49, 102]))) (60 :: (tell t ++ [62, 58, 58, 102])) := by
  have h1 := hp.fit.len
  have h2 := ht.len
  have h3 := ht.tlen
  have := read_member (77 :: (pieceOf p ++ pieceOf t)) (60 :: (tell t ++ [62])) ?_ ?_ (by simp; omega) (by simp; omega)
  · simpa using this
  · have hq := hp.quiet (pieceOf t ++ [49, 102])
    have := path_M true 0 false (pieceOf p ++ (pieceOf t ++ [49, 102])) (pieceOf t ++ [49, 102]) [49, 102] (tell t) _ NS hq (ht.type [49, 102]) rfl
    simpa using this
  · intro x hx
    simp only [List.mem_cons, List.mem_append] at hx
    rcases hx with rfl | hx | hx
    · decide
    · exact hp.fit.no46 x hx
    · exact ht.no46 x hx
/-- How a name in a path is told. -/
theorem tellP_nested (c : UInt8) (nm : List UInt8) (n : Nat) (fl : Bool) (p : RT) : tellP (.mk 5 c nm n fl [p]) = tellP p ++ nestText c nm n := by simp [tellP, txt, txts, Md.sep]
theorem FitP.nested {c : UInt8} {nm : List UInt8} {n : Nat} {fl : Bool} {p : RT} (h : FitP (.mk 5 c nm n fl [p])) : Rt 0 p ∧ isPathK p.kd ∧ size p ≤ 300 ∧ n < 4611686018427387904 ∧ ((lowB c = true ∧ nameB nm = true) ∨ ((c = 67 ∨ c = 83) ∧ (nameB nm = true ∨ nm = []))) := by
  have hs := h.fit.sz
  have e : size (.mk 5 c nm n fl [p]) = 1 + size p := by simp [size, sizes]
  have hr := h.fit.rt
  cases hr with
  | nested b c nm n fl p hn hc hp kp => exact ⟨hp, kp, by omega, hn, hc⟩
end Go.Proofs.YtidokamjbglkbaaGreatDoor

