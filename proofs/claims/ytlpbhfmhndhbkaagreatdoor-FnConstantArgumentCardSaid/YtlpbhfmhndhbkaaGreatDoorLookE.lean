/- RustRightConstant, exactly. -/
import Derived.Test.YtlpbhfmhndhbkaaGreatDoorLook
import Derived.Test.YtlpbhfmhndhbkaaGreatDoorExact
namespace Go.Proofs.YtlpbhfmhndhbkaaGreatDoor
open Go.RowKit

/-- It answers v, and the look goes on. -/
def LookE (v : Bool) (B b : Nat) (w : World) (e : Ending) (w' : World) : Prop := ∃ l : Int, e = .returned (.bool v) ∧ Lk b l w' ∧ KeptM ML B w w'
theorem LookE.mk {v u : Bool} {B b : Nat} {w w' : World} {l : Int} (h1 : u = v) (h2 : Lk b l w') (h3 : KeptM ML B w w') : LookE v B b w (.returned (.bool u)) w' := ⟨l, by rw [h1], h2, h3⟩

/-- Whether a constant is right: kind, letter, number, flag, how many kids. -/
def rcOk (kd : Int) (c n : Nat) (fl : Bool) (m : Nat) : Bool := if kd = 20 then (if m = 0 then numOk c n fl else false) else if kd = 21 then decide (m = 0) else false

section
variable (c : UInt8) (nm : List UInt8) (n : Nat) (fl : Bool) (a : Option Addr) (m cap : Nat) (B b : Nat) (left deep bound : Int) (w : World)

set_option maxHeartbeats 2000000 in
set_option maxRecDepth 100000 in
theorem other_numE (v : Bool) (hv : (if m = 0 then numOk c.toNat n fl else false) = v) (hn : n < 18446744073709551616) (hl : Lk b left w) :
    Calls Tryz.prog 21 #[.pointer (some ⟨b, 0, none⟩), .agg (rv 20 c nm n fl (.slice a m cap)), .int .i64 deep, .int .i64 bound] w (LookE v B b w) := by
  have HN := Lib.hid (fun w => number_exact 20 c nm n fl (.slice a m cap) hn w)
  have H1 := Lib.hid (hl.alloc (.cells (rv 20 c nm n fl (.slice a m cap)) tRu))
  have H2 := Lib.hid ((hl.alloc (.cells (rv 20 c nm n fl (.slice a m cap)) tRu)).alloc (.cells (rv 20 c nm n fl (.slice a m cap)) tRu))
  have K1 := Lib.hid ((KeptM.refl (M := ML) (B := B) w).alloc (.cells (rv 20 c nm n fl (.slice a m cap)) tRu))
  have K2 := Lib.hid (((KeptM.refl (M := ML) (B := B) w).alloc (.cells (rv 20 c nm n fl (.slice a m cap)) tRu)).alloc (.cells (rv 20 c nm n fl (.slice a m cap)) tRu))
  clear hl
  by_cases hm : m = 0
  · rw [if_pos hm] at hv
    have HV := Lib.hid hv
    clear hv
    subst hm
    go_enter Tryz.func21, Tryz.ntmps21
    go_wp2_with (go_at_call 39; refine (HN.out _).mono ?_)
    rintro e w' ⟨rfl, rfl⟩
    rw [HV.out]
    go_wp2
    go_ret
    exact LookE.mk rfl H2.out K2.out
  · rw [if_neg hm] at hv
    have HV := Lib.hid hv
    have hm' : ((m : Int) == 0) = false := by rw [beq_eq_false_iff_ne]; omega
    clear hv
    go_enter Tryz.func21, Tryz.ntmps21
    go_wp2
    go_ret
    exact LookE.mk HV.out H1.out K1.out

set_option maxHeartbeats 2000000 in
set_option maxRecDepth 100000 in
theorem other_holeE (v : Bool) (hv : decide (m = 0) = v) (hl : Lk b left w) :
    Calls Tryz.prog 21 #[.pointer (some ⟨b, 0, none⟩), .agg (rv 21 c nm n fl (.slice a m cap)), .int .i64 deep, .int .i64 bound] w (LookE v B b w) := by
  have H1 := Lib.hid (hl.alloc (.cells (rv 21 c nm n fl (.slice a m cap)) tRu))
  have K1 := Lib.hid ((KeptM.refl (M := ML) (B := B) w).alloc (.cells (rv 21 c nm n fl (.slice a m cap)) tRu))
  have HV := Lib.hid hv
  clear hl hv
  by_cases hm : m = 0
  · subst hm
    go_enter Tryz.func21, Tryz.ntmps21
    go_wp2
    go_ret
    exact LookE.mk (by rw [← HV.out]; rfl) H1.out K1.out
  · have hm' : ((m : Int) == 0) = false := by rw [beq_eq_false_iff_ne]; omega
    have hv' : false = v := by rw [← HV.out]; simp [hm]
    have HV' := Lib.hid hv'
    clear hm hv'
    go_enter Tryz.func21, Tryz.ntmps21
    go_wp2
    go_ret
    exact LookE.mk HV'.out H1.out K1.out

set_option maxHeartbeats 2000000 in
set_option maxRecDepth 100000 in
theorem look_numE (v : Bool) (hv : (if m = 0 then numOk c.toNat n fl else false) = v) (hn : n < 18446744073709551616) (hl : Lk b 1 w) (hB : B ≤ b) :
    Calls Tryz.prog 11 #[.pointer (some ⟨b, 0, none⟩), .agg (rv 20 c nm n fl (.slice a m cap)), .int .i64 3, .int .i64 2, .int .i64 0] w (LookE v B b w) := by
  have c0 := (hl.alloc (.cells (rv 20 c nm n fl (.slice a m cap)) tRu)).cell
  have g0 := (hl.alloc (.cells (rv 20 c nm n fl (.slice a m cap)) tRu)).fz
  have hlt := hl.lt
  have hne : b ≠ w.heap.size := by omega
  have hne2 : w.heap.size ≠ b := by omega
  have H := Lib.hid ((hl.alloc (.cells (rv 20 c nm n fl (.slice a m cap)) tRu)).set 0)
  have K := Lib.hid ((hl.alloc (.cells (rv 20 c nm n fl (.slice a m cap)) tRu)).keeps hB ((KeptM.refl (M := ML) (B := B) w).alloc (.cells (rv 20 c nm n fl (.slice a m cap)) tRu)) (.int .i64 0))
  have HO := Lib.hid (fun w (h : Lk b 0 w) => other_numE c nm n fl a m cap B b _ 1 0 w v hv hn h)
  clear hl hlt hv
  go_enter Tryz.func11, Tryz.ntmps11
  go_wp2_with (first
    | (go_at_call 17; refine (fits_const 20 _).mono ?_; rintro e w' ⟨rfl, rfl⟩)
    | (go_at_call 18; refine (isPath_any 20 _).mono ?_; rintro e w' ⟨rfl, rfl⟩)
    | (go_at_call 21; refine (HO.out _ H.out).mono ?_; rintro e w' ⟨l, rfl, h2, k2⟩))
  go_wp2
  go_ret
  exact LookE.mk rfl h2 (K.out.trans k2)
set_option maxHeartbeats 2000000 in
set_option maxRecDepth 100000 in
theorem look_holeE (v : Bool) (hv : decide (m = 0) = v) (hl : Lk b 1 w) (hB : B ≤ b) :
    Calls Tryz.prog 11 #[.pointer (some ⟨b, 0, none⟩), .agg (rv 21 c nm n fl (.slice a m cap)), .int .i64 3, .int .i64 2, .int .i64 0] w (LookE v B b w) := by
  have c0 := (hl.alloc (.cells (rv 21 c nm n fl (.slice a m cap)) tRu)).cell
  have g0 := (hl.alloc (.cells (rv 21 c nm n fl (.slice a m cap)) tRu)).fz
  have hlt := hl.lt
  have hne : b ≠ w.heap.size := by omega
  have hne2 : w.heap.size ≠ b := by omega
  have H := Lib.hid ((hl.alloc (.cells (rv 21 c nm n fl (.slice a m cap)) tRu)).set 0)
  have K := Lib.hid ((hl.alloc (.cells (rv 21 c nm n fl (.slice a m cap)) tRu)).keeps hB ((KeptM.refl (M := ML) (B := B) w).alloc (.cells (rv 21 c nm n fl (.slice a m cap)) tRu)) (.int .i64 0))
  have HO := Lib.hid (fun w (h : Lk b 0 w) => other_holeE c nm n fl a m cap B b _ 1 0 w v hv h)
  clear hl hlt hv
  go_enter Tryz.func11, Tryz.ntmps11
  go_wp2_with (first
    | (go_at_call 17; refine (fits_const 21 _).mono ?_; rintro e w' ⟨rfl, rfl⟩)
    | (go_at_call 18; refine (isPath_any 21 _).mono ?_; rintro e w' ⟨rfl, rfl⟩)
    | (go_at_call 21; refine (HO.out _ H.out).mono ?_; rintro e w' ⟨l, rfl, h2, k2⟩))
  go_wp2
  go_ret
  exact LookE.mk rfl h2 (K.out.trans k2)
set_option maxHeartbeats 2000000 in
set_option maxRecDepth 100000 in
theorem look_badE (kd : Int) (h20 : kd ≠ 20) (h21 : kd ≠ 21) (hl : Lk b 1 w) (hB : B ≤ b) :
    Calls Tryz.prog 11 #[.pointer (some ⟨b, 0, none⟩), .agg (rv kd c nm n fl (.slice a m cap)), .int .i64 3, .int .i64 2, .int .i64 0] w (LookE false B b w) := by
  have c0 := (hl.alloc (.cells (rv kd c nm n fl (.slice a m cap)) tRu)).cell
  have g0 := (hl.alloc (.cells (rv kd c nm n fl (.slice a m cap)) tRu)).fz
  have hlt := hl.lt
  have hne : b ≠ w.heap.size := by omega
  have hne2 : w.heap.size ≠ b := by omega
  have H := Lib.hid ((hl.alloc (.cells (rv kd c nm n fl (.slice a m cap)) tRu)).set 0)
  have K := Lib.hid ((hl.alloc (.cells (rv kd c nm n fl (.slice a m cap)) tRu)).keeps hB ((KeptM.refl (M := ML) (B := B) w).alloc (.cells (rv kd c nm n fl (.slice a m cap)) tRu)) (.int .i64 0))
  have HF : Hid (∀ w, Calls Tryz.prog 17 #[.int .i64 kd, .int .i64 3] w fun e w' => e = .returned (.bool false) ∧ w' = w) := by
    intro w
    refine (fits_const kd w).mono ?_
    rintro e w' ⟨rfl, rfl⟩
    simp [h20, h21]
  clear hl hlt h20 h21
  go_enter Tryz.func11, Tryz.ntmps11
  go_wp2_with (go_at_call 17; refine (HF.out _).mono ?_; rintro e w' ⟨rfl, rfl⟩)
  go_ret
  exact LookE.mk rfl H.out K.out

theorem numOk_kind {c : UInt8} {n : Nat} {fl : Bool} (h : numOk c.toNat n fl = true) : ∃ K, KindOk K c n fl := by
  unfold numOk at h
  split at h
  · rename_i h98
    simp at h
    exact ⟨3, .inr (.inr (.inl ⟨rfl, h98, h.2, h.1⟩))⟩
  · split at h
    · rename_i h99
      simp at h
      exact ⟨4, .inr (.inr (.inr ⟨rfl, h99, h.2.2.2.2.2, h.1, h.2.1, h.2.2.1, h.2.2.2.2.1⟩))⟩
    · split at h
      · rename_i hs
        exact ⟨1, .inl ⟨rfl, hs⟩⟩
      · split at h
        · rename_i hu
          simp at h
          exact ⟨2, .inr (.inl ⟨rfl, hu, h.1⟩)⟩
        · cases h
theorem rcOk_kind {kd : Int} {c : UInt8} {n m : Nat} {fl : Bool} (h : rcOk kd c.toNat n fl m = true) : (kd = 20 ∧ ∃ K, KindOk K c n fl) ∨ kd = 21 := by
  unfold rcOk at h
  split at h
  · rename_i h20
    split at h
    · exact .inl ⟨h20, numOk_kind h⟩
    · cases h
  · split at h
    · rename_i h21; exact .inr h21
    · cases h

set_option maxHeartbeats 2000000 in
set_option maxRecDepth 100000 in
theorem right_constE (kd : Int) (v : Bool) (hv : rcOk kd c.toNat n fl m = v) (hn : n < 18446744073709551616) :
    Calls Tryz.prog 6 #[.agg (rv kd c nm n fl (.slice a m cap))] w
      fun e w' => e = .returned (.bool v) ∧ Below w.heap.size w w' := by
  have b2 := Lib.hid ((((Below.refl w.heap.size w).alloc (Nat.le_refl _) (.cells (rv kd c nm n fl (.slice a m cap)) tRu))).alloc (by simp) (.cells #[.int .i64 1] tL))
  have hl : Lk (w.heap.size + 1) 1 ((w.alloc (.cells (rv kd c nm n fl (.slice a m cap)) tRu)).alloc (.cells #[.int .i64 1] tL)) := by
    have := heap_alloc_new (w.alloc (.cells (rv kd c nm n fl (.slice a m cap)) tRu)) (.cells #[.int .i64 1] tL)
    simpa [Lk] using this
  have HL : Hid (Calls Tryz.prog 11 #[.pointer (some ⟨w.heap.size + 1, 0, none⟩), .agg (rv kd c nm n fl (.slice a m cap)), .int .i64 3, .int .i64 2, .int .i64 0]
      ((w.alloc (.cells (rv kd c nm n fl (.slice a m cap)) tRu)).alloc (.cells #[.int .i64 1] tL)) (LookE v (w.heap.size + 1) (w.heap.size + 1) ((w.alloc (.cells (rv kd c nm n fl (.slice a m cap)) tRu)).alloc (.cells #[.int .i64 1] tL)))) := by
    unfold rcOk at hv
    by_cases h20 : kd = 20
    · subst h20
      exact look_numE c nm n fl a m cap _ _ _ v (by simpa using hv) hn hl (Nat.le_refl _)
    · by_cases h21 : kd = 21
      · subst h21
        exact look_holeE c nm n fl a m cap _ _ _ v (by simpa using hv) hl (Nat.le_refl _)
      · rw [if_neg h20, if_neg h21] at hv
        subst hv
        exact look_badE c nm n fl a m cap _ _ _ kd h20 h21 hl (Nat.le_refl _)
  clear hl hn hv
  go_enter Tryz.func6, Tryz.ntmps6
  go_wp2_with (go_at_call 11; refine HL.out.mono ?_)
  rintro e w1 ⟨l, rfl, _, k⟩
  have b3 := b2.out.trans ((k.below (by simp)).mono (by simp))
  clear k HL
  go_wp2
  go_ret
  exact ⟨rfl, b3⟩
end
end Go.Proofs.YtlpbhfmhndhbkaaGreatDoor
