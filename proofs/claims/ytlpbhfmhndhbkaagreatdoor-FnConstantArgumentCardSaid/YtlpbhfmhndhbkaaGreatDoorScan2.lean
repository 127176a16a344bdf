/- Decimal numbers, disambiguators, one wanted byte. -/
import Derived.Test.YtlpbhfmhndhbkaaGreatDoorScan
namespace Go.Proofs.YtlpbhfmhndhbkaaGreatDoor
open Go.RowKit

theorem isDigit_yes (n : Nat) (w : World) (h : 48 ≤ n ∧ n ≤ 57) : Calls Tryz.prog 82 #[.int .u8 n] w fun e w' => e = .returned (.bool true) ∧ w = w' := by
  obtain ⟨h1, h2⟩ := h
  go_enter Tryz.func82, Tryz.ntmps82
  go_wp2
  go_ret
  exact ⟨by simp; omega, rfl⟩

theorem isDigit_no (n : Nat) (w : World) (h : n < 48 ∨ 57 < n) : Calls Tryz.prog 82 #[.int .u8 n] w fun e w' => e = .returned (.bool false) ∧ w = w' := by
  rcases h with h | h
  · go_enter Tryz.func82, Tryz.ntmps82
    go_wp2
    go_ret
    exact ⟨rfl, rfl⟩
  · have h0 : 48 ≤ n := by omega
    go_enter Tryz.func82, Tryz.ntmps82
    go_wp2
    go_ret
    exact ⟨by simp; omega, rfl⟩

set_option maxHeartbeats 1000000 in
theorem checkChar_ok (B b : Nat) (c : UInt8) (rest : List UInt8) (r : RS) (w : World) (h : Rst B b { r with str := c :: rest } w) :
    Calls Tryz.prog 73 #[.pointer (some ⟨b, 0, none⟩), .int .u8 c.toNat] w fun e w' => e = .returned (.tuple #[]) ∧ Rst B b { r with str := rest, off := r.off + 1 } w' ∧ Kept B w w' := by
  obtain ⟨ad, buf, h'⟩ := h.open
  have c1 := h'.c1
  simp only [] at c1
  have hln := h.len
  simp only [List.length_cons] at hln
  go_enter Tryz.func73, Tryz.ntmps73
  go_wp2_with (go_at_call 51; refine (advance_any B b 1 _ _ h (by simp)).mono ?_; rintro e w1 ⟨rfl, hr1, hk1⟩)
  go_end0
  exact ⟨rfl, hr1.cast (by simp), hk1⟩

set_option maxHeartbeats 2000000 in
set_option maxRecDepth 100000 in
theorem decimal_any (B b : Nat) (ds rest : List UInt8) (r : RS) (w : World) (h : Rst B b { r with str := ds ++ rest } w) (hne : ds ≠ []) (hd : ∀ c ∈ ds, is10 c) (hnd : noDig rest)
    (hv : f10 ds 0 ≤ 10000000) :
    Calls Tryz.prog 126 #[.pointer (some ⟨b, 0, none⟩)] w fun e w' =>
      e = .returned (.int .i64 ((f10 ds 0 : Nat) : Int)) ∧ Rst B b { r with str := rest, off := r.off + ds.length } w' ∧ Kept B w w' := by
  obtain ⟨d, ds', rfl⟩ := List.exists_cons_of_ne_nil hne
  obtain ⟨ad, buf, h'⟩ := h.open
  have c1 := h'.c1
  simp only [List.cons_append] at c1
  have HV := Lib.hid hv
  have HD := Lib.hid hd
  have HN := Lib.hid hnd
  have HR := Lib.hid h
  have hln := h.len
  simp only [List.cons_append, List.length_cons, List.length_append] at hln
  clear hv hd h h' hne hnd
  go_enter Tryz.func126, Tryz.ntmps126
  go_wp2_with fail
  go_loopg [3] (ds'.length + 2) (fun k v wr => ∃ (todo : List UInt8) (x o : Nat), k = todo.length + 1 ∧ v = .int .i64 x ∧ f10 todo x = f10 (d :: ds') 0 ∧ (∀ c ∈ todo, is10 c) ∧
    o + todo.length = r.off + (d :: ds').length ∧ todo.length ≤ (d :: ds').length ∧ Rst B b { r with str := todo ++ rest, off := o } wr ∧ Kept B w wr)
  case atStart => exact ⟨d :: ds', 0, r.off, rfl, rfl, rfl, HD.out, rfl, Nat.le_refl _, HR.out, Kept.refl B w⟩
  case round =>
    obtain ⟨todo, x, o, rfl, rfl, hf, ht, hoo, htl, hr, hk⟩ := hrel
    clear c1
    cases todo with
    | nil =>
      have fin : Value.int IntKind.i64 (x : Int) = .int .i64 ((f10 (d :: ds') 0 : Nat) : Int) ∧ Rst B b { r with str := rest, off := r.off + (ds'.length + 1) } wr := by
        refine ⟨by rw [← hf, f10_nil], hr.cast ?_⟩
        simp at hoo; simp [hoo]
      have FIN := Lib.hid fin
      clear hf ht hoo htl fin
      cases rest with
      | nil =>
        obtain ⟨ad2, buf2, hr'⟩ := hr.open
        have c1 := hr'.c1
        simp only [List.nil_append] at c1
        clear hr hr'
        go_wp2_with fail
        go_ret
        exact ⟨congrArg Ending.returned FIN.out.1, FIN.out.2, hk⟩
      | cons q rest =>
        obtain ⟨ad2, buf2, hr'⟩ := hr.open
        have c1 := hr'.c1
        have hln2 := hr.len
        simp only [List.nil_append, List.length_cons] at hln2
        simp only [List.nil_append] at c1
        have hq : q.toNat < 48 ∨ 57 < q.toNat := by
          have := HN.out q rfl; unfold is10 at this; omega
        clear hr hr'
        go_wp2_with (go_at_call 82; refine (isDigit_no q.toNat _ hq).mono ?_; rintro e w1 ⟨rfl, rfl⟩)
        go_ret
        exact ⟨congrArg Ending.returned FIN.out.1, FIN.out.2, hk⟩
    | cons c todo =>
      obtain ⟨ad2, buf2, hr'⟩ := hr.open
      have c1 := hr'.c1
      simp only [List.cons_append] at c1
      have hx : x * 10 + (c.toNat - 48) ≤ 10000000 := by
        have := HV.out; rw [← hf, f10_cons] at this
        exact Nat.le_trans (f10_ge todo _) this
      have hc := ht c (by simp)
      have hln2 := hr.len
      simp only [List.cons_append, List.length_cons, List.length_append] at hln2
      have fin : ∀ (n : Int) (w1 : World), n = ((x * 10 + (c.toNat - 48) : Nat) : Int) → Rst B b { r with str := todo ++ rest, off := o + 1 } w1 → Kept B wr w1 →
          ∃ (todo' : List UInt8) (x' o' : Nat), todo.length + 1 = todo'.length + 1 ∧ Value.int .i64 n = .int .i64 (x' : Int) ∧ f10 todo' x' = f10 (d :: ds') 0 ∧ (∀ c ∈ todo', is10 c) ∧
            o' + todo'.length = r.off + (d :: ds').length ∧ todo'.length ≤ (d :: ds').length ∧ Rst B b { r with str := todo' ++ rest, off := o' } w1 ∧ Kept B w w1 := by
        intro n w1 hn h1 h2
        refine ⟨todo, x * 10 + (c.toNat - 48), o + 1, rfl, by rw [hn], ?_, fun c hc => ht c (by simp [hc]), by simp at hoo ⊢; omega, by simp at htl ⊢; omega, h1, hk.trans h2⟩
        rw [← hf, f10_cons]
      have FIN := Lib.hid fin
      clear hf ht hoo htl hr' fin
      unfold is10 at hc
      have HC := Lib.hid hc
      obtain ⟨hc1, hc2⟩ := hc
      go_wp2_with (first
        | (go_at_call 82; refine (isDigit_yes c.toNat _ HC.out).mono ?_; rintro e w1 ⟨rfl, rfl⟩)
        | (go_at_call 51; refine (advance_any B b 1 _ _ hr (by simp)).mono ?_; rintro e w1 ⟨rfl, hr1, hk1⟩))
      go_roundg (todo.length + 1)
      case measure => simp
      case rel => exact FIN.out _ _ (by omega) (hr1.cast (by simp)) hk1
end Go.Proofs.YtlpbhfmhndhbkaaGreatDoor
