/- RustRightConstant. -/
import Derived.Test.YtlpbhfmhndhbkaaGreatDoorSpec0
import Derived.Test.YtlpbhfmhndhbkaaGreatDoorWr
namespace Go.Proofs.YtlpbhfmhndhbkaaGreatDoor
open Go.RowKit

theorem fits_const (kd : Int) (w : World) : Calls Tryz.prog 17 #[.int .i64 kd, .int .i64 3] w fun e w' => e = .returned (.bool (decide (kd = 20) || decide (kd = 21))) ∧ w' = w := by
  by_cases h : kd = 20
  · subst h
    go_enter Tryz.func17, Tryz.ntmps17
    go_wp2
    go_ret
    exact ⟨rfl, rfl⟩
  · have e1 : (kd == 20) = false := by rw [beq_eq_false_iff_ne]; exact h
    go_enter Tryz.func17, Tryz.ntmps17
    go_wp2
    go_ret
    refine ⟨?_, rfl⟩
    by_cases h2 : kd = 21
    · subst h2; rfl
    · have e2 : (kd == 21) = false := by rw [beq_eq_false_iff_ne]; exact h2
      simp [h, h2]

abbrev tL : TypeId := 33

/-- A look that goes on. -/
def Lk (b : Nat) (left : Int) (w : World) : Prop := w.heap[b]? = some (.cells #[.int .i64 left] tL (0, 0))
abbrev ML : List TypeId := [tL]
theorem Lk.cell {b : Nat} {left : Int} {w : World} (h : Lk b left w) : w.cell? ⟨b, 0, none⟩ = some (.int .i64 left) := by rw [cellAt h]; rfl
theorem Lk.fz {b : Nat} {left : Int} {w : World} (h : Lk b left w) : w.frozen? ⟨b, 0, none⟩ = false := Lib.frozen_of_heap h 0
theorem Lk.lt {b : Nat} {left : Int} {w : World} (h : Lk b left w) : b < w.heap.size := (Array.getElem?_eq_some_iff.1 h).1
theorem Lk.set {b : Nat} {left : Int} {w : World} (h : Lk b left w) (l : Int) : Lk b l (w.setCell ⟨b, 0, none⟩ (.int .i64 l)) := by
  unfold Lk at h ⊢; rw [setCell_heap h]; rfl
theorem Lk.alloc {b : Nat} {left : Int} {w : World} (h : Lk b left w) (o : Obj) : Lk b left (w.alloc o) := (Below.heap_alloc _ _ _ h.lt).trans h
theorem Lk.keeps {B b : Nat} {left : Int} {a w : World} (h : Lk b left w) (hB : B ≤ b) (k : KeptM ML B a w) (u : Value) : KeptM ML B a (w.setCell ⟨b, 0, none⟩ u) :=
  k.setCell (p := ⟨b, 0, none⟩) hB (t := tL) (by decide) (by unfold Lk at h; rw [h]; rfl) u
/-- It answers a bool of which Q holds, and the look goes on. -/
def LookP (Q : Prop) (B b : Nat) (w : World) (e : Ending) (w' : World) : Prop := ∃ (bl : Bool) (l : Int), e = .returned (.bool bl) ∧ (bl = true → Q) ∧ Lk b l w' ∧ KeptM ML B w w'
theorem LookP.mk {Q : Prop} {B b : Nat} {w w' : World} (bl : Bool) {l : Int} (h1 : bl = true → Q) (h2 : Lk b l w') (h3 : KeptM ML B w w') : LookP Q B b w (.returned (.bool bl)) w' := ⟨bl, l, rfl, h1, h2, h3⟩

section
variable (Q : Prop) (c : UInt8) (nm : List UInt8) (n : Nat) (fl : Bool) (a : Option Addr) (m cap : Nat) (B b : Nat) (left deep bound : Int) (w : World)

theorem LookP.from {w1 : World} {e : Ending} {w' : World} (k : KeptM ML B w w1) (h : LookP Q B b w1 e w') : LookP Q B b w e w' := by
  obtain ⟨bl, l, h1, h2, h3, h4⟩ := h; exact ⟨bl, l, h1, h2, h3, k.trans h4⟩

set_option maxHeartbeats 2000000 in
set_option maxRecDepth 100000 in
theorem other_num (hn : n < 18446744073709551616) (hQ : (∃ K, KindOk K c n fl) → Q) (hl : Lk b left w) :
    Calls Tryz.prog 21 #[.pointer (some ⟨b, 0, none⟩), .agg (rv 20 c nm n fl (.slice a m cap)), .int .i64 deep, .int .i64 bound] w (LookP Q B b w) := by
  have HN := Lib.hid (fun w => isNumber_any (fun bl => bl = true → Q) 20 c nm n fl (.slice a m cap) hn (fun bl h e => hQ (h e)) w)
  have H1 := Lib.hid (hl.alloc (.cells (rv 20 c nm n fl (.slice a m cap)) tRu))
  have H2 := Lib.hid ((hl.alloc (.cells (rv 20 c nm n fl (.slice a m cap)) tRu)).alloc (.cells (rv 20 c nm n fl (.slice a m cap)) tRu))
  have K1 := Lib.hid ((KeptM.refl (M := ML) (B := B) w).alloc (.cells (rv 20 c nm n fl (.slice a m cap)) tRu))
  have K2 := Lib.hid (((KeptM.refl (M := ML) (B := B) w).alloc (.cells (rv 20 c nm n fl (.slice a m cap)) tRu)).alloc (.cells (rv 20 c nm n fl (.slice a m cap)) tRu))
  clear hl hQ
  by_cases hm : m = 0
  · subst hm
    go_enter Tryz.func21, Tryz.ntmps21
    go_wp2_with (go_at_call 39; refine (HN.out _).mono ?_)
    rintro e w' ⟨bl, rfl, hb, rfl⟩
    go_wp2
    go_ret
    exact LookP.mk bl hb H2.out K2.out
  · have hm' : ((m : Int) == 0) = false := by rw [beq_eq_false_iff_ne]; omega
    go_enter Tryz.func21, Tryz.ntmps21
    go_wp2
    go_ret
    exact LookP.mk false (fun h => by simp at h) H1.out K1.out

set_option maxHeartbeats 2000000 in
set_option maxRecDepth 100000 in
theorem other_hole (hQ : Q) (hl : Lk b left w) :
    Calls Tryz.prog 21 #[.pointer (some ⟨b, 0, none⟩), .agg (rv 21 c nm n fl (.slice a m cap)), .int .i64 deep, .int .i64 bound] w (LookP Q B b w) := by
  have H1 := Lib.hid (hl.alloc (.cells (rv 21 c nm n fl (.slice a m cap)) tRu))
  have K1 := Lib.hid ((KeptM.refl (M := ML) (B := B) w).alloc (.cells (rv 21 c nm n fl (.slice a m cap)) tRu))
  have HQ := Lib.hid hQ
  clear hl hQ
  go_enter Tryz.func21, Tryz.ntmps21
  go_wp2
  go_ret
  exact LookP.mk _ (fun _ => HQ.out) H1.out K1.out

set_option maxHeartbeats 2000000 in
set_option maxRecDepth 100000 in
theorem look_num (hn : n < 18446744073709551616) (hQ : (∃ K, KindOk K c n fl) → Q) (hl : Lk b left w) (hB : B ≤ b) :
    Calls Tryz.prog 11 #[.pointer (some ⟨b, 0, none⟩), .agg (rv 20 c nm n fl (.slice a m cap)), .int .i64 3, .int .i64 deep, .int .i64 bound] w (LookP Q B b w) := by
  have c0 := (hl.alloc (.cells (rv 20 c nm n fl (.slice a m cap)) tRu)).cell
  have g0 := (hl.alloc (.cells (rv 20 c nm n fl (.slice a m cap)) tRu)).fz
  have hlt := hl.lt
  have hne : b ≠ w.heap.size := by omega
  have hne2 : w.heap.size ≠ b := by omega
  have H := Lib.hid ((hl.alloc (.cells (rv 20 c nm n fl (.slice a m cap)) tRu)).set (wrap64 (left - 1)))
  have K := Lib.hid ((hl.alloc (.cells (rv 20 c nm n fl (.slice a m cap)) tRu)).keeps hB ((KeptM.refl (M := ML) (B := B) w).alloc (.cells (rv 20 c nm n fl (.slice a m cap)) tRu)) (.int .i64 (wrap64 (left - 1))))
  have HO := Lib.hid (fun w (h : Lk b (wrap64 (left - 1)) w) => other_num Q c nm n fl a m cap B b _ (wrap64 (deep - 1)) bound w hn hQ h)
  clear hl hQ hlt
  go_enter Tryz.func11, Tryz.ntmps11
  go_wp2_with (first
    | (go_at_call 17; refine (fits_const 20 _).mono ?_; rintro e w' ⟨rfl, rfl⟩)
    | (go_at_call 18; refine (isPath_any 20 _).mono ?_; rintro e w' ⟨rfl, rfl⟩)
    | (go_at_call 21; refine (HO.out _ H.out).mono ?_; rintro e w' ⟨bl, l, rfl, hb, h2, k2⟩))
  · go_wp2
    go_ret
    exact LookP.mk bl hb h2 (K.out.trans k2)
  all_goals
    go_ret
    exact LookP.mk false (fun h => by simp at h) H.out K.out
set_option maxHeartbeats 2000000 in
set_option maxRecDepth 100000 in
theorem look_hole (hQ : Q) (hl : Lk b left w) (hB : B ≤ b) :
    Calls Tryz.prog 11 #[.pointer (some ⟨b, 0, none⟩), .agg (rv 21 c nm n fl (.slice a m cap)), .int .i64 3, .int .i64 deep, .int .i64 bound] w (LookP Q B b w) := by
  have c0 := (hl.alloc (.cells (rv 21 c nm n fl (.slice a m cap)) tRu)).cell
  have g0 := (hl.alloc (.cells (rv 21 c nm n fl (.slice a m cap)) tRu)).fz
  have hlt := hl.lt
  have hne : b ≠ w.heap.size := by omega
  have hne2 : w.heap.size ≠ b := by omega
  have H := Lib.hid ((hl.alloc (.cells (rv 21 c nm n fl (.slice a m cap)) tRu)).set (wrap64 (left - 1)))
  have K := Lib.hid ((hl.alloc (.cells (rv 21 c nm n fl (.slice a m cap)) tRu)).keeps hB ((KeptM.refl (M := ML) (B := B) w).alloc (.cells (rv 21 c nm n fl (.slice a m cap)) tRu)) (.int .i64 (wrap64 (left - 1))))
  have HO := Lib.hid (fun w (h : Lk b (wrap64 (left - 1)) w) => other_hole Q c nm n fl a m cap B b _ (wrap64 (deep - 1)) bound w hQ h)
  clear hl hQ hlt
  go_enter Tryz.func11, Tryz.ntmps11
  go_wp2_with (first
    | (go_at_call 17; refine (fits_const 21 _).mono ?_; rintro e w' ⟨rfl, rfl⟩)
    | (go_at_call 18; refine (isPath_any 21 _).mono ?_; rintro e w' ⟨rfl, rfl⟩)
    | (go_at_call 21; refine (HO.out _ H.out).mono ?_; rintro e w' ⟨bl, l, rfl, hb, h2, k2⟩))
  · go_wp2
    go_ret
    exact LookP.mk bl hb h2 (K.out.trans k2)
  all_goals
    go_ret
    exact LookP.mk false (fun h => by simp at h) H.out K.out
set_option maxHeartbeats 2000000 in
set_option maxRecDepth 100000 in
theorem look_bad (kd : Int) (h20 : kd ≠ 20) (h21 : kd ≠ 21) (hl : Lk b left w) (hB : B ≤ b) :
    Calls Tryz.prog 11 #[.pointer (some ⟨b, 0, none⟩), .agg (rv kd c nm n fl (.slice a m cap)), .int .i64 3, .int .i64 deep, .int .i64 bound] w (LookP Q B b w) := by
  have c0 := (hl.alloc (.cells (rv kd c nm n fl (.slice a m cap)) tRu)).cell
  have g0 := (hl.alloc (.cells (rv kd c nm n fl (.slice a m cap)) tRu)).fz
  have hlt := hl.lt
  have hne : b ≠ w.heap.size := by omega
  have hne2 : w.heap.size ≠ b := by omega
  have H := Lib.hid ((hl.alloc (.cells (rv kd c nm n fl (.slice a m cap)) tRu)).set (wrap64 (left - 1)))
  have K := Lib.hid ((hl.alloc (.cells (rv kd c nm n fl (.slice a m cap)) tRu)).keeps hB ((KeptM.refl (M := ML) (B := B) w).alloc (.cells (rv kd c nm n fl (.slice a m cap)) tRu)) (.int .i64 (wrap64 (left - 1))))
  have HF : Hid (∀ w, Calls Tryz.prog 17 #[.int .i64 kd, .int .i64 3] w fun e w' => e = .returned (.bool false) ∧ w' = w) := by
    intro w
    refine (fits_const kd w).mono ?_
    rintro e w' ⟨rfl, rfl⟩
    simp [h20, h21]
  clear hl hlt h20 h21
  go_enter Tryz.func11, Tryz.ntmps11
  go_wp2_with (go_at_call 17; refine (HF.out _).mono ?_; rintro e w' ⟨rfl, rfl⟩)
  all_goals
    go_ret
    exact LookP.mk false (fun h => by simp at h) H.out K.out

set_option maxHeartbeats 2000000 in
set_option maxRecDepth 100000 in
/-- A right constant is one of its type, or a hole. -/
theorem right_const (kd : Int) (hn : n < 18446744073709551616) :
    Calls Tryz.prog 6 #[.agg (rv kd c nm n fl (.slice a m cap))] w
      fun e w' => ∃ bl : Bool, e = .returned (.bool bl) ∧ (bl = true → (kd = 20 ∧ ∃ K, KindOk K c n fl) ∨ kd = 21) ∧ Below w.heap.size w w' := by
  have b2 := Lib.hid ((((Below.refl w.heap.size w).alloc (Nat.le_refl _) (.cells (rv kd c nm n fl (.slice a m cap)) tRu))).alloc (by simp) (.cells #[.int .i64 1] tL))
  have hl : Lk (w.heap.size + 1) 1 ((w.alloc (.cells (rv kd c nm n fl (.slice a m cap)) tRu)).alloc (.cells #[.int .i64 1] tL)) := by
    have := heap_alloc_new (w.alloc (.cells (rv kd c nm n fl (.slice a m cap)) tRu)) (.cells #[.int .i64 1] tL)
    simpa [Lk] using this
  have HL : Hid (Calls Tryz.prog 11 #[.pointer (some ⟨w.heap.size + 1, 0, none⟩), .agg (rv kd c nm n fl (.slice a m cap)), .int .i64 3, .int .i64 2, .int .i64 0]
      ((w.alloc (.cells (rv kd c nm n fl (.slice a m cap)) tRu)).alloc (.cells #[.int .i64 1] tL)) (LookP ((kd = 20 ∧ ∃ K, KindOk K c n fl) ∨ kd = 21) (w.heap.size + 1) (w.heap.size + 1) ((w.alloc (.cells (rv kd c nm n fl (.slice a m cap)) tRu)).alloc (.cells #[.int .i64 1] tL)))) := by
    by_cases h20 : kd = 20
    · subst h20
      exact look_num _ c nm n fl a m cap _ _ 1 2 0 _ hn (fun h => .inl ⟨rfl, h⟩) hl (Nat.le_refl _)
    · by_cases h21 : kd = 21
      · subst h21
        exact look_hole _ c nm n fl a m cap _ _ 1 2 0 _ (.inr rfl) hl (Nat.le_refl _)
      · exact look_bad _ c nm n fl a m cap _ _ 1 2 0 _ kd h20 h21 hl (Nat.le_refl _)
  clear hl hn
  obtain ⟨Q, hQ⟩ : ∃ Q : Prop, Q = ((kd = 20 ∧ ∃ K, KindOk K c n fl) ∨ kd = 21) := ⟨_, rfl⟩
  rw [← hQ] at HL
  have HQ := Lib.hid hQ
  clear hQ
  go_enter Tryz.func6, Tryz.ntmps6
  go_wp2_with (go_at_call 11; refine HL.out.mono ?_)
  rintro e w1 ⟨bl, l, rfl, hb, _, k⟩
  have b3 := b2.out.trans ((k.below (by simp)).mono (by simp))
  clear k HL
  go_wp2
  go_ret
  exact ⟨bl, rfl, fun h => HQ.out ▸ hb h, b3⟩
end
end Go.Proofs.YtlpbhfmhndhbkaaGreatDoor
