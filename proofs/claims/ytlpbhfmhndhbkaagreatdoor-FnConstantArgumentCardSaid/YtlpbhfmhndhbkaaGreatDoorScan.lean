/- Numbers in base 62. -/
import Derived.Test.YtlpbhfmhndhbkaaGreatDoorWrite
import Derived.Test.YtlpbhfmhndhbkaaGreatDoorPure
import Derived.Deep.LoopGhost
namespace Go.Proofs.YtlpbhfmhndhbkaaGreatDoor
open Go.RowKit

set_option maxHeartbeats 2000000 in
set_option maxRecDepth 100000 in
theorem base62_digits (B b : Nat) (ds rest : List UInt8) (r : RS) (w : World) (h : Rst B b { r with str := ds ++ 95 :: rest } w) (hne : ds ≠ []) (hd : ∀ c ∈ ds, is62 c)
    (hv : f62 ds 0 < 9223372036854775800) :
    Calls Tryz.prog 74 #[.pointer (some ⟨b, 0, none⟩)] w fun e w' =>
      e = .returned (.int .i64 ((f62 ds 0 + 1 : Nat) : Int)) ∧ Rst B b { r with str := rest, off := r.off + (ds.length + 1) } w' ∧ Kept B w w' := by
  obtain ⟨d, ds', rfl⟩ := List.exists_cons_of_ne_nil hne
  obtain ⟨ad, buf, h'⟩ := h.open
  have c1 := h'.c1
  have hd0 : (d.toNat == 95) = false := by
    have := hd d (by simp); unfold is62 at this; simp; omega
  have hd0' : ((d.toNat : Int) == 95) = false := by simp at hd0 ⊢; omega
  simp only [List.cons_append] at c1
  have HV := Lib.hid hv
  have HD := Lib.hid hd
  have HR := Lib.hid h
  have HH := Lib.hid h'
  clear hv hd h h' hne
  go_enter Tryz.func74, Tryz.ntmps74
  go_wp2_with fail
  go_loopg [3] (ds'.length + 2) (fun k v wr => ∃ (todo : List UInt8) (x o : Nat), k = todo.length + 1 ∧ v = .int .i64 x ∧ f62 todo x = f62 (d :: ds') 0 ∧ (∀ c ∈ todo, is62 c) ∧
    o + todo.length = r.off + (d :: ds').length ∧ todo.length ≤ (d :: ds').length ∧ Rst B b { r with str := todo ++ 95 :: rest, off := o } wr ∧ Kept B w wr)
  case atStart => exact ⟨d :: ds', 0, r.off, rfl, rfl, rfl, HD.out, rfl, Nat.le_refl _, HR.out, Kept.refl B w⟩
  case round =>
    obtain ⟨todo, x, o, rfl, rfl, hf, ht, hoo, htl, hr, hk⟩ := hrel
    clear c1 hd0 hd0'
    cases todo with
    | nil =>
      obtain ⟨ad2, buf2, hr'⟩ := hr.open
      have c1 := hr'.c1
      simp only [List.nil_append] at c1
      have hx : x < 9223372036854775800 := by have := HV.out; rw [← hf, f62_nil] at this; exact this
      have HF := Lib.hid hf
      have HO := Lib.hid hoo
      have hln := hr.len
      simp only [List.nil_append, List.length_cons] at hln
      clear hf ht hoo htl hr'
      go_wp2_with (go_at_call 51; refine (advance_any B b 1 _ _ hr (by simp)).mono ?_; rintro e w1 ⟨rfl, hr1, hk1⟩)
      go_ret
      refine ⟨?_, ?_, hk.trans hk1⟩
      · rw [← HF.out, f62_nil]; rfl
      · have h0 := HO.out
        simp at h0
        exact hr1.cast (by simp <;> omega)
    | cons c todo =>
      obtain ⟨ad2, buf2, hr'⟩ := hr.open
      have c1 := hr'.c1
      simp only [List.cons_append] at c1
      have hx : x * 62 + d62 c < 9223372036854775800 := by
        have := HV.out; rw [← hf, f62_cons] at this
        exact Nat.lt_of_le_of_lt (f62_ge todo _) this
      have hc := ht c (by simp)
      have hc95 : ((c.toNat : Int) == 95) = false := by unfold is62 at hc; simp; omega
      have HF := Lib.hid hf
      have HO := Lib.hid hoo
      have HT := Lib.hid ht
      have hln := hr.len
      simp only [List.cons_append, List.length_cons, List.length_append] at hln
      have fin : ∀ (n : Int) (w1 : World), n = ((x * 62 + d62 c : Nat) : Int) → Rst B b { r with str := todo ++ 95 :: rest, off := o + 1 } w1 → Kept B wr w1 →
          ∃ (todo' : List UInt8) (x' o' : Nat), todo.length + 1 = todo'.length + 1 ∧ Value.int .i64 n = .int .i64 (x' : Int) ∧ f62 todo' x' = f62 (d :: ds') 0 ∧ (∀ c ∈ todo', is62 c) ∧
            o' + todo'.length = r.off + (d :: ds').length ∧ todo'.length ≤ (d :: ds').length ∧ Rst B b { r with str := todo' ++ 95 :: rest, off := o' } w1 ∧ Kept B w w1 := by
        intro n w1 hn h1 h2
        refine ⟨todo, x * 62 + d62 c, o + 1, rfl, by rw [hn], ?_, fun c hc => ht c (by simp [hc]), by simp at hoo ⊢; omega, by simp at htl ⊢; omega, h1, hk.trans h2⟩
        rw [← hf, f62_cons]
      have FIN := Lib.hid fin
      clear hf ht hoo htl hr' fin
      unfold is62 at hc
      have hdv : d62 c = if c.toNat ≤ 57 then c.toNat - 48 else if c.toNat ≤ 90 then c.toNat - 65 + 36 else c.toNat - 97 + 10 := rfl
      rcases hc with ⟨hc1, hc2⟩ | ⟨hc1, hc2⟩ | ⟨hc1, hc2⟩
      · rw [if_pos hc2] at hdv
        have hx' : x * 62 + (c.toNat - 48) < 9223372036854775800 := by omega
        have HD2 := Lib.hid hdv
        clear hdv hx
        go_wp2_with (go_at_call 51; refine (advance_any B b 1 _ _ hr (by simp)).mono ?_; rintro e w1 ⟨rfl, hr1, hk1⟩)
        go_roundg (todo.length + 1)
        case measure => simp
        case rel => exact FIN.out _ _ (by rw [HD2.out]; omega) (hr1.cast (by simp)) hk1
      · rw [if_neg (by omega), if_neg (by omega)] at hdv
        have hx' : x * 62 + (c.toNat - 97 + 10) < 9223372036854775800 := by omega
        have HD2 := Lib.hid hdv
        clear hdv hx
        go_wp2_with (go_at_call 51; refine (advance_any B b 1 _ _ hr (by simp)).mono ?_; rintro e w1 ⟨rfl, hr1, hk1⟩)
        go_roundg (todo.length + 1)
        case measure => simp
        case rel => exact FIN.out _ _ (by rw [HD2.out]; omega) (hr1.cast (by simp)) hk1
      · rw [if_neg (by omega), if_pos (by omega)] at hdv
        have hx' : x * 62 + (c.toNat - 65 + 36) < 9223372036854775800 := by omega
        have HD2 := Lib.hid hdv
        clear hdv hx
        go_wp2_with (go_at_call 51; refine (advance_any B b 1 _ _ hr (by simp)).mono ?_; rintro e w1 ⟨rfl, hr1, hk1⟩)
        go_roundg (todo.length + 1)
        case measure => simp
        case rel => exact FIN.out _ _ (by rw [HD2.out]; omega) (hr1.cast (by simp)) hk1
end Go.Proofs.YtlpbhfmhndhbkaaGreatDoor
