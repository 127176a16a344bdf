/- writeByte, writeString. -/
import Derived.Test.YtidokamjbglkbaaGreatDoorY08
import Derived.Test.YtidokamjbglkbaaGreatDoorY01
import Derived.Deep.LoopGhost
namespace Go.Proofs.YtidokamjbglkbaaGreatDoor
open Go.RowKit

set_option maxHeartbeats 1000000 in
set_option maxRecDepth 100000 in
theorem writeByte_any (B b : Nat) (r : RS) (c : UInt8) (w : World) (h : Rst B b r w) (hl : r.skip = false → r.out.length + 1 ≤ 140737488355328) :
    Calls Tryz.prog 59 #[.pointer (some ⟨b, 0, none⟩), .int .u8 c.toNat] w fun e w' => e = .returned (.tuple #[]) ∧
      Rst B b (r.wr [c]) w' ∧ Kept B w w' := by
  obtain ⟨ad, buf, h⟩ := h.open
  have c5 := h.c5
  cases hs : r.skip with
  | true =>
    rw [hs] at c5
    rw [RS.wr_skip _ _ hs]
    clear hs hl
    go_enter Tryz.func59, Tryz.ntmps59
    go_wp2
    refine bodyPost_ret (results_none rfl _ _ _) rfl ?_
    exact ⟨rfl, h.rst, Kept.refl B w⟩
  | false =>
    rw [hs] at c5
    have HS : Hid (r.skip = false) := hs
    have hl := hl hs
    clear hs
    have c9 := h.c9
    have g7 := h.fz 7
    have c7 := h.c7
    go_enter Tryz.func59, Tryz.ntmps59
    go_wp2
    go_quiet (fail)
    go_wp2_with fail
    refine (bWriteByte B b { r with last := c.toNat } c _ (((h.drewN _).setLast c.toNat rfl).rst) hl).mono ?_
    rintro e w' ⟨rfl, hr, hk⟩
    go_wp2
    go_end0
    refine ⟨rfl, ?_, (((h.drewN _).keeps ((Kept.refl B w).drewN _) 7 _)).trans hk⟩
    rw [RS.wr_say _ _ HS.out]
    exact hr

theorem last_byte (s : ByteArray) (hz : 0 < s.size) : (s.data.toList.getLast?.map UInt8.toNat).getD 0 = s[s.size - 1].toNat ∧ ∀ n, (s.data.toList.getLast?.map UInt8.toNat).getD n = s[s.size - 1].toNat := by
  have h : s.data.toList.getLast? = some s[s.size - 1] := by
    rw [List.getLast?_eq_getElem?]
    simp only [Array.length_toList, Array.getElem?_toList]
    exact Array.getElem?_eq_getElem _
  simp [h]

set_option maxHeartbeats 1000000 in
set_option maxRecDepth 100000 in
theorem writeString_any (B b : Nat) (r : RS) (s : ByteArray) (w : World) (h : Rst B b r w) (hl : r.skip = false → r.out.length + s.size ≤ 140737488355328) :
    Calls Tryz.prog 58 #[.pointer (some ⟨b, 0, none⟩), .string s] w fun e w' => e = .returned (.tuple #[]) ∧
      Rst B b (r.wr s.data.toList) w' ∧ Kept B w w' := by
  obtain ⟨ad, buf, h⟩ := h.open
  have c5 := h.c5
  cases hs : r.skip with
  | true =>
    rw [hs] at c5
    rw [RS.wr_skip _ _ hs]
    clear hs hl
    go_enter Tryz.func58, Tryz.ntmps58
    go_wp2
    refine bodyPost_ret (results_none rfl _ _ _) rfl ?_
    exact ⟨rfl, h.rst, Kept.refl B w⟩
  | false =>
    rw [hs] at c5
    have HS : Hid (r.skip = false) := hs
    have hl := hl hs
    clear hs
    have c9 := h.c9
    have g7 := h.fz 7
    have c7 := h.c7
    by_cases hz : 0 < s.size
    · obtain ⟨d, hd⟩ : ∃ d : UInt8, d = s[s.size - 1] := ⟨_, rfl⟩
      have HD : Hid (d = s[s.size - 1]) := hd
      clear hd
      have hz' : s.size ≤ 140737488355328 := by omega
      go_enter Tryz.func58, Tryz.ntmps58
      go_wp2
      go_quiet (fail)
      go_wp2_with fail
      refine (bWriteString B b { r with last := s[s.size - 1].toNat } s _ (((h.drewN _).setLast s[s.size - 1].toNat rfl).rst) hl).mono ?_
      rintro e w' ⟨rfl, hr, hk⟩
      go_wp2
      go_end0
      refine ⟨rfl, ?_, (((h.drewN _).keeps ((Kept.refl B w).drewN _) 7 _)).trans hk⟩
      rw [RS.wr_say _ _ HS.out, (last_byte s hz).2]
      exact hr
    · have hz0 : s.size = 0 := by omega
      have hs0 : s = ⟨#[]⟩ := by
        have : s.data = #[] := Array.eq_empty_of_size_eq_zero hz0
        cases s; simp_all
      subst hs0
      clear hz hz0 hl
      go_enter Tryz.func58, Tryz.ntmps58
      go_wp2
      go_quiet (fail)
      go_wp2
      go_end0
      refine ⟨rfl, ?_, (Kept.refl B w).drewN _⟩
      rw [RS.wr_say _ _ HS.out]
      simpa using (h.drewN _).rst

theorem writeText (B b : Nat) (r : RS) (l : List UInt8) (w : World) (h : Rst B b r w) (hl : r.skip = false → r.out.length + l.length ≤ 140737488355328) :
    Calls Tryz.prog 58 #[.pointer (some ⟨b, 0, none⟩), .string (bs l)] w fun e w' => e = .returned (.tuple #[]) ∧
      Rst B b (r.wr l) w' ∧ Kept B w w' := by
  have := writeString_any B b r (bs l) w h (by simpa using hl)
  simpa using this
end Go.Proofs.YtidokamjbglkbaaGreatDoor

/- Numbers in base 62. -/
namespace Go.Proofs.YtidokamjbglkbaaGreatDoor
open Go.RowKit

set_option maxHeartbeats 2000000 in
set_option maxRecDepth 100000 in
theorem base62_digits (B b : Nat) (ds rest : List UInt8) (r : RS) (w : World) (h : Rst B b { r with str := ds ++ 95 :: rest } w) (hne : ds ≠ []) (hd : ∀ c ∈ ds, is62 c)
    (hv : f62 ds 0 < 9223372036854775800) :
    Calls Tryz.prog 105 #[.pointer (some ⟨b, 0, none⟩)] w fun e w' =>
      e = .returned (.int .i64 ((f62 ds 0 + 1 : Nat) : Int)) ∧ Rst B b { r with str := rest, off := r.off + (ds.length + 1) } w' ∧ Kept B w w' := by
  obtain ⟨d, ds', rfl⟩ := List.exists_cons_of_ne_nil hne
  obtain ⟨ad, buf, h'⟩ := h.open
  have c1 := h'.c1
  have hd0 : (d.toNat == 95) = false := by
    have := hd d (by simp); unfold is62 at this; simp; omega
  have hd0' : ((d.toNat : Int) == 95) = false := by simp at hd0 ⊢; omega
  simp only [List.cons_append] at c1
  have HV := Lib.hid hv
  have HD := Lib.hid hd
  have HR := Lib.hid h
  have HH := Lib.hid h'
  clear hv hd h h' hne
  go_enter Tryz.func105, Tryz.ntmps105
  go_wp2_with fail
  go_loopg [3] (ds'.length + 2) (fun k v wr => ∃ (todo : List UInt8) (x o : Nat), k = todo.length + 1 ∧ v = .int .i64 x ∧ f62 todo x = f62 (d :: ds') 0 ∧ (∀ c ∈ todo, is62 c) ∧
    o + todo.length = r.off + (d :: ds').length ∧ todo.length ≤ (d :: ds').length ∧ Rst B b { r with str := todo ++ 95 :: rest, off := o } wr ∧ Kept B w wr)
  case atStart => exact ⟨d :: ds', 0, r.off, rfl, rfl, rfl, HD.out, rfl, Nat.le_refl _, HR.out, Kept.refl B w⟩
  case round =>
    obtain ⟨todo, x, o, rfl, rfl, hf, ht, hoo, htl, hr, hk⟩ := hrel
    clear c1 hd0 hd0'
    cases todo with
    | nil =>
      obtain ⟨ad2, buf2, hr'⟩ := hr.open
      have c1 := hr'.c1
      simp only [List.nil_append] at c1
      have hx : x < 9223372036854775800 := by have := HV.out; rw [← hf, f62_nil] at this; exact this
      have HF := Lib.hid hf
      have HO := Lib.hid hoo
      have hln := hr.len
      simp only [List.nil_append, List.length_cons] at hln
      clear hf ht hoo htl hr'
      go_wp2_with (go_at_call 83; refine (advance_any B b 1 _ _ hr (by simp)).mono ?_; rintro e w1 ⟨rfl, hr1, hk1⟩)
      go_ret
      refine ⟨?_, ?_, hk.trans hk1⟩
      · rw [← HF.out, f62_nil]; rfl
      · have h0 := HO.out
        simp at h0
        exact hr1.cast (by simp <;> omega)
    | cons c todo =>
      obtain ⟨ad2, buf2, hr'⟩ := hr.open
      have c1 := hr'.c1
      simp only [List.cons_append] at c1
      have hx : x * 62 + d62 c < 9223372036854775800 := by
        have := HV.out; rw [← hf, f62_cons] at this
        exact Nat.lt_of_le_of_lt (f62_ge todo _) this
      have hc := ht c (by simp)
      have hc95 : ((c.toNat : Int) == 95) = false := by unfold is62 at hc; simp; omega
      have HF := Lib.hid hf
      have HO := Lib.hid hoo
      have HT := Lib.hid ht
      have hln := hr.len
      simp only [List.cons_append, List.length_cons, List.length_append] at hln
      have fin : ∀ (n : Int) (w1 : World), n = ((x * 62 + d62 c : Nat) : Int) → Rst B b { r with str := todo ++ 95 :: rest, off := o + 1 } w1 → Kept B wr w1 →
          ∃ (todo' : List UInt8) (x' o' : Nat), todo.length + 1 = todo'.length + 1 ∧ Value.int .i64 n = .int .i64 (x' : Int) ∧ f62 todo' x' = f62 (d :: ds') 0 ∧ (∀ c ∈ todo', is62 c) ∧
            o' + todo'.length = r.off + (d :: ds').length ∧ todo'.length ≤ (d :: ds').length ∧ Rst B b { r with str := todo' ++ 95 :: rest, off := o' } w1 ∧ Kept B w w1 := by
        intro n w1 hn h1 h2
        refine ⟨todo, x * 62 + d62 c, o + 1, rfl, by rw [hn], ?_, fun c hc => ht c (by simp [hc]), by simp at hoo ⊢; omega, by simp at htl ⊢; omega, h1, hk.trans h2⟩
        rw [← hf, f62_cons]
      have FIN := Lib.hid fin
      clear hf ht hoo htl hr' fin
      unfold is62 at hc
      have hdv : d62 c = if c.toNat ≤ 57 then c.toNat - 48 else if c.toNat ≤ 90 then c.toNat - 65 + 36 else c.toNat - 97 + 10 := rfl
      rcases hc with ⟨hc1, hc2⟩ | ⟨hc1, hc2⟩ | ⟨hc1, hc2⟩
      · rw [if_pos hc2] at hdv
        have hx' : x * 62 + (c.toNat - 48) < 9223372036854775800 := by omega
        have HD2 := Lib.hid hdv
        clear hdv hx
        go_wp2_with (go_at_call 83; refine (advance_any B b 1 _ _ hr (by simp)).mono ?_; rintro e w1 ⟨rfl, hr1, hk1⟩)
        go_roundg (todo.length + 1)
        case measure => simp
        case rel => exact FIN.out _ _ (by rw [HD2.out]; omega) (hr1.cast (by simp)) hk1
      · rw [if_neg (by omega), if_neg (by omega)] at hdv
        have hx' : x * 62 + (c.toNat - 97 + 10) < 9223372036854775800 := by omega
        have HD2 := Lib.hid hdv
        clear hdv hx
        go_wp2_with (go_at_call 83; refine (advance_any B b 1 _ _ hr (by simp)).mono ?_; rintro e w1 ⟨rfl, hr1, hk1⟩)
        go_roundg (todo.length + 1)
        case measure => simp
        case rel => exact FIN.out _ _ (by rw [HD2.out]; omega) (hr1.cast (by simp)) hk1
      · rw [if_neg (by omega), if_pos (by omega)] at hdv
        have hx' : x * 62 + (c.toNat - 65 + 36) < 9223372036854775800 := by omega
        have HD2 := Lib.hid hdv
        clear hdv hx
        go_wp2_with (go_at_call 83; refine (advance_any B b 1 _ _ hr (by simp)).mono ?_; rintro e w1 ⟨rfl, hr1, hk1⟩)
        go_roundg (todo.length + 1)
        case measure => simp
        case rel => exact FIN.out _ _ (by rw [HD2.out]; omega) (hr1.cast (by simp)) hk1
end Go.Proofs.YtidokamjbglkbaaGreatDoor

/- Decimal numbers, disambiguators, one wanted byte. -/
namespace Go.Proofs.YtidokamjbglkbaaGreatDoor
open Go.RowKit

theorem isDigit_yes (n : Nat) (w : World) (h : 48 ≤ n ∧ n ≤ 57) : Calls Tryz.prog 73 #[.int .u8 n] w fun e w' => e = .returned (.bool true) ∧ w = w' := by
  obtain ⟨h1, h2⟩ := h
  go_enter Tryz.func73, Tryz.ntmps73
  go_wp2
  go_ret
  exact ⟨by simp; omega, rfl⟩

theorem isDigit_no (n : Nat) (w : World) (h : n < 48 ∨ 57 < n) : Calls Tryz.prog 73 #[.int .u8 n] w fun e w' => e = .returned (.bool false) ∧ w = w' := by
  rcases h with h | h
  · go_enter Tryz.func73, Tryz.ntmps73
    go_wp2
    go_ret
    exact ⟨rfl, rfl⟩
  · have h0 : 48 ≤ n := by omega
    go_enter Tryz.func73, Tryz.ntmps73
    go_wp2
    go_ret
    exact ⟨by simp; omega, rfl⟩

set_option maxHeartbeats 1000000 in
theorem checkChar_ok (B b : Nat) (c : UInt8) (rest : List UInt8) (r : RS) (w : World) (h : Rst B b { r with str := c :: rest } w) :
    Calls Tryz.prog 89 #[.pointer (some ⟨b, 0, none⟩), .int .u8 c.toNat] w fun e w' => e = .returned (.tuple #[]) ∧ Rst B b { r with str := rest, off := r.off + 1 } w' ∧ Kept B w w' := by
  obtain ⟨ad, buf, h'⟩ := h.open
  have c1 := h'.c1
  simp only [] at c1
  have hln := h.len
  simp only [List.length_cons] at hln
  go_enter Tryz.func89, Tryz.ntmps89
  go_wp2_with (go_at_call 83; refine (advance_any B b 1 _ _ h (by simp)).mono ?_; rintro e w1 ⟨rfl, hr1, hk1⟩)
  go_end0
  exact ⟨rfl, hr1.cast (by simp), hk1⟩

set_option maxHeartbeats 2000000 in
set_option maxRecDepth 100000 in
theorem decimal_any (B b : Nat) (ds rest : List UInt8) (r : RS) (w : World) (h : Rst B b { r with str := ds ++ rest } w) (hne : ds ≠ []) (hd : ∀ c ∈ ds, is10 c) (hnd : noDig rest)
    (hv : f10 ds 0 ≤ 10000000) :
    Calls Tryz.prog 117 #[.pointer (some ⟨b, 0, none⟩)] w fun e w' =>
      e = .returned (.int .i64 ((f10 ds 0 : Nat) : Int)) ∧ Rst B b { r with str := rest, off := r.off + ds.length } w' ∧ Kept B w w' := by
  obtain ⟨d, ds', rfl⟩ := List.exists_cons_of_ne_nil hne
  obtain ⟨ad, buf, h'⟩ := h.open
  have c1 := h'.c1
  simp only [List.cons_append] at c1
  have HV := Lib.hid hv
  have HD := Lib.hid hd
  have HN := Lib.hid hnd
  have HR := Lib.hid h
  have hln := h.len
  simp only [List.cons_append, List.length_cons, List.length_append] at hln
  clear hv hd h h' hne hnd
  go_enter Tryz.func117, Tryz.ntmps117
  go_wp2_with fail
  go_loopg [3] (ds'.length + 2) (fun k v wr => ∃ (todo : List UInt8) (x o : Nat), k = todo.length + 1 ∧ v = .int .i64 x ∧ f10 todo x = f10 (d :: ds') 0 ∧ (∀ c ∈ todo, is10 c) ∧
    o + todo.length = r.off + (d :: ds').length ∧ todo.length ≤ (d :: ds').length ∧ Rst B b { r with str := todo ++ rest, off := o } wr ∧ Kept B w wr)
  case atStart => exact ⟨d :: ds', 0, r.off, rfl, rfl, rfl, HD.out, rfl, Nat.le_refl _, HR.out, Kept.refl B w⟩
  case round =>
    obtain ⟨todo, x, o, rfl, rfl, hf, ht, hoo, htl, hr, hk⟩ := hrel
    clear c1
    cases todo with
    | nil =>
      have fin : Value.int IntKind.i64 (x : Int) = .int .i64 ((f10 (d :: ds') 0 : Nat) : Int) ∧ Rst B b { r with str := rest, off := r.off + (ds'.length + 1) } wr := by
        refine ⟨by rw [← hf, f10_nil], hr.cast ?_⟩
        simp at hoo; simp [hoo]
      have FIN := Lib.hid fin
      clear hf ht hoo htl fin
      cases rest with
      | nil =>
        obtain ⟨ad2, buf2, hr'⟩ := hr.open
        have c1 := hr'.c1
        simp only [List.nil_append] at c1
        clear hr hr'
        go_wp2_with fail
        go_ret
        exact ⟨congrArg Ending.returned FIN.out.1, FIN.out.2, hk⟩
      | cons q rest =>
        obtain ⟨ad2, buf2, hr'⟩ := hr.open
        have c1 := hr'.c1
        have hln2 := hr.len
        simp only [List.nil_append, List.length_cons] at hln2
        simp only [List.nil_append] at c1
        have hq : q.toNat < 48 ∨ 57 < q.toNat := by
          have := HN.out q rfl; unfold is10 at this; omega
        clear hr hr'
        go_wp2_with (go_at_call 73; refine (isDigit_no q.toNat _ hq).mono ?_; rintro e w1 ⟨rfl, rfl⟩)
        go_ret
        exact ⟨congrArg Ending.returned FIN.out.1, FIN.out.2, hk⟩
    | cons c todo =>
      obtain ⟨ad2, buf2, hr'⟩ := hr.open
      have c1 := hr'.c1
      simp only [List.cons_append] at c1
      have hx : x * 10 + (c.toNat - 48) ≤ 10000000 := by
        have := HV.out; rw [← hf, f10_cons] at this
        exact Nat.le_trans (f10_ge todo _) this
      have hc := ht c (by simp)
      have hln2 := hr.len
      simp only [List.cons_append, List.length_cons, List.length_append] at hln2
      have fin : ∀ (n : Int) (w1 : World), n = ((x * 10 + (c.toNat - 48) : Nat) : Int) → Rst B b { r with str := todo ++ rest, off := o + 1 } w1 → Kept B wr w1 →
          ∃ (todo' : List UInt8) (x' o' : Nat), todo.length + 1 = todo'.length + 1 ∧ Value.int .i64 n = .int .i64 (x' : Int) ∧ f10 todo' x' = f10 (d :: ds') 0 ∧ (∀ c ∈ todo', is10 c) ∧
            o' + todo'.length = r.off + (d :: ds').length ∧ todo'.length ≤ (d :: ds').length ∧ Rst B b { r with str := todo' ++ rest, off := o' } w1 ∧ Kept B w w1 := by
        intro n w1 hn h1 h2
        refine ⟨todo, x * 10 + (c.toNat - 48), o + 1, rfl, by rw [hn], ?_, fun c hc => ht c (by simp [hc]), by simp at hoo ⊢; omega, by simp at htl ⊢; omega, h1, hk.trans h2⟩
        rw [← hf, f10_cons]
      have FIN := Lib.hid fin
      clear hf ht hoo htl hr' fin
      unfold is10 at hc
      have HC := Lib.hid hc
      obtain ⟨hc1, hc2⟩ := hc
      go_wp2_with (first
        | (go_at_call 73; refine (isDigit_yes c.toNat _ HC.out).mono ?_; rintro e w1 ⟨rfl, rfl⟩)
        | (go_at_call 83; refine (advance_any B b 1 _ _ hr (by simp)).mono ?_; rintro e w1 ⟨rfl, hr1, hk1⟩))
      go_roundg (todo.length + 1)
      case measure => simp
      case rel => exact FIN.out _ _ (by omega) (hr1.cast (by simp)) hk1
end Go.Proofs.YtidokamjbglkbaaGreatDoor

/- base 62 as it is written; disambiguators; lifetimes. -/
namespace Go.Proofs.YtidokamjbglkbaaGreatDoor
open Go.RowKit

theorem RS.wr_wr (r : RS) (a b : List UInt8) : (r.wr a).wr b = r.wr (a ++ b) := by
  cases hs : r.skip with
  | true => simp [RS.wr, hs]
  | false =>
    rcases List.eq_nil_or_concat b with rfl | ⟨b, c, rfl⟩
    · simp [RS.wr, hs]
    · simp [RS.wr, hs]
theorem RS.wr_len (r : RS) (l : List UInt8) : (r.wr l).out.length ≤ r.out.length + l.length := by
  cases hs : r.skip <;> simp [RS.wr, hs]
@[simp] theorem RS.wr_orig (r : RS) (l : List UInt8) : (r.wr l).orig = r.orig := rfl
@[simp] theorem RS.wr_str (r : RS) (l : List UInt8) : (r.wr l).str = r.str := rfl
@[simp] theorem RS.wr_off (r : RS) (l : List UInt8) : (r.wr l).off = r.off := rfl
@[simp] theorem RS.wr_sk (r : RS) (l : List UInt8) : (r.wr l).skip = r.skip := rfl
@[simp] theorem RS.wr_life (r : RS) (l : List UInt8) : (r.wr l).life = r.life := rfl

theorem writeByteN (B b : Nat) (r : RS) (c : UInt8) (n : Int) (w : World) (h : Rst B b r w) (hn : (c.toNat : Int) = n) (hl : r.skip = false → r.out.length + 1 ≤ 140737488355328) :
    Calls Tryz.prog 59 #[.pointer (some ⟨b, 0, none⟩), .int .u8 n] w fun e w' => e = .returned (.tuple #[]) ∧ Rst B b (r.wr [c]) w' ∧ Kept B w w' := by
  subst hn; exact writeByte_any B b r c w h hl

theorem base62_zero (B b : Nat) (rest : List UInt8) (r : RS) (w : World) (h : Rst B b { r with str := 95 :: rest } w) :
    Calls Tryz.prog 105 #[.pointer (some ⟨b, 0, none⟩)] w fun e w' => e = .returned (.int .i64 0) ∧ Rst B b { r with str := rest, off := r.off + 1 } w' ∧ Kept B w w' := by
  obtain ⟨ad, buf, h'⟩ := h.open
  have c1 := h'.c1
  simp only [] at c1
  have hln := h.len
  simp only [List.length_cons] at hln
  go_enter Tryz.func105, Tryz.ntmps105
  go_wp2_with fail
  refine (advance_any B b 1 _ _ h (by simp)).mono ?_
  rintro e w1 ⟨rfl, hr1, hk1⟩
  go_wp2_with fail
  go_ret
  exact ⟨rfl, hr1.cast (by simp), hk1⟩

theorem base62_any (B b n : Nat) (rest : List UInt8) (r : RS) (w : World) (h : Rst B b { r with str := b62 n ++ rest } w) (hn : n ≤ 4611686018427387904) :
    Calls Tryz.prog 105 #[.pointer (some ⟨b, 0, none⟩)] w fun e w' => e = .returned (.int .i64 n) ∧ Rst B b { r with str := rest, off := r.off + (b62 n).length } w' ∧ Kept B w w' := by
  have hl := b62_len n hn
  by_cases h0 : n = 0
  · subst h0
    refine (base62_zero B b rest r w (h.cast (by simp [b62]))).mono ?_
    rintro e w1 ⟨rfl, hr, hk⟩
    exact ⟨rfl, hr.cast (by simp [b62]), hk⟩
  · have e1 : b62 n = e62 (n - 1) [] ++ [95] := by unfold b62; rw [if_neg h0]
    have hf := e62_f (n - 1) []
    rw [f62_nil] at hf
    rw [e1] at h hl ⊢
    rw [List.length_append] at hl
    refine (base62_digits B b (e62 (n - 1) []) rest r w (h.cast (by simp)) (e62_ne _ _) (e62_is _ _ (by simp)) (by omega)).mono ?_
    rintro e w1 ⟨rfl, hr, hk⟩
    refine ⟨?_, hr.cast (by simp), hk⟩
    rw [hf]; congr 2; omega

set_option maxHeartbeats 1000000 in
theorem disamb_any (B b n : Nat) (rest : List UInt8) (r : RS) (w : World) (h : Rst B b { r with str := dis n ++ rest } w) (hn : n ≤ 4611686018427387904)
    (hr0 : ∃ c l, rest = c :: l ∧ c.toNat ≠ 115) :
    Calls Tryz.prog 100 #[.pointer (some ⟨b, 0, none⟩)] w fun e w' => e = .returned (.int .i64 n) ∧ Rst B b { r with str := rest, off := r.off + (dis n).length } w' ∧ Kept B w w' := by
  obtain ⟨q, l, rfl, hq⟩ := hr0
  have hq' : ((q.toNat : Int) != 115) = true := by simp; omega
  by_cases h0 : n = 0
  · subst h0
    have h1 : Rst B b { r with str := q :: l } w := h.cast (by simp [dis])
    obtain ⟨ad, buf, h'⟩ := h1.open
    have c1 := h'.c1
    simp only [] at c1
    have hln := h1.len
    simp only [List.length_cons] at hln
    clear h hq
    go_enter Tryz.func100, Tryz.ntmps100
    go_wp2_with fail
    go_ret
    exact ⟨rfl, h1.cast (by simp [dis]), Kept.refl B w⟩
  · have e1 : dis n = 115 :: b62 (n - 1) := by unfold dis; rw [if_neg h0]
    have hl := b62_len (n - 1) (by omega)
    have h1 : Rst B b { r with str := 115 :: (b62 (n - 1) ++ (q :: l)) } w := h.cast (by simp [e1])
    obtain ⟨ad, buf, h'⟩ := h1.open
    have c1 := h'.c1
    simp only [] at c1
    have E1 := Lib.hid e1
    have hln := h1.len
    simp only [List.length_cons, List.length_append] at hln
    have hnn : 1 ≤ n := by omega
    clear h e1 h' hq hq'
    go_enter Tryz.func100, Tryz.ntmps100
    go_wp2_with fail
    refine (advance_any B b 1 _ _ h1 (by simp)).mono ?_
    rintro e w1 ⟨rfl, hr1, hk1⟩
    go_wp2_with fail
    refine (base62_any B b (n - 1) (q :: l) { r with off := r.off + 1 } _ (hr1.cast (by simp)) (by omega)).mono ?_
    rintro e w2 ⟨rfl, hr2, hk2⟩
    have hz : ((n - 1 : Nat) : Int) ≤ 4611686018427387904 := by omega
    go_wp2_with fail
    go_ret
    refine ⟨?_, hr2.cast (by rw [E1.out]; simp; omega), hk1.trans hk2⟩
    simp; omega
end Go.Proofs.YtidokamjbglkbaaGreatDoor

/- Identifiers without Punycode. -/
namespace Go.Proofs.YtidokamjbglkbaaGreatDoor
open Go.RowKit

theorem noDig_us (tl : List UInt8) : noDig (95 :: tl) := by
  intro c hc
  simp at hc; subst hc
  decide

/-- The bytes from k on are good. -/
def IdAt (t : List UInt8) (n : Nat) : Prop := ∀ k (h : k < t.length), k < n → isId t[k]

set_option maxHeartbeats 4000000 in
set_option maxRecDepth 100000 in
theorem undis_plain (B b n : Nat) (ds sep t : List UInt8) (r : RS) (w : World) (h : Rst B b { r with str := ds ++ (sep ++ t) } w) (hne : ds ≠ []) (hd : ∀ c ∈ ds, is10 c)
    (hf : f10 ds 0 = n) (hb : IdAt t n) (hn : n ≤ t.length) (hbl : n ≤ 1000000) (hsep : SepOk sep t) :
    Calls Tryz.prog 101 #[.pointer (some ⟨b, 0, none⟩)] w fun e w' =>
      e = .returned (.tuple #[.string (bs (t.take n)), .bool false]) ∧ Rst B b { r with str := t.drop n, off := r.off + ds.length + sep.length + n } w' ∧ Kept B w w' := by
  obtain ⟨d, ds', rfl⟩ := List.exists_cons_of_ne_nil hne
  obtain ⟨ad, buf, h'⟩ := h.open
  have c1 := h'.c1
  simp only [List.cons_append] at c1
  have hd0 : ((d.toNat : Int) == 117) = false := by
    have := hd d (by simp); unfold is10 at this; simp; omega
  have hnd : noDig (sep ++ t) := by
    rcases hsep with rfl | ⟨rfl, hs, _⟩
    · exact noDig_us _
    · simpa using hs
  have hln := h.len
  simp only [List.cons_append, List.length_cons, List.length_append] at hln
  have HF := Lib.hid hf
  have HD := Lib.hid hd
  have HN := Lib.hid hnd
  have HB := Lib.hid hb
  have HS := Lib.hid hsep
  have H := Lib.hid h
  clear hf hd hnd hb hsep h h' hne
  go_enter Tryz.func101, Tryz.ntmps101
  go_wp2_with fail
  refine (decimal_any B b (d :: ds') (sep ++ t) r _ (H.out.cast (by simp)) (by simp) HD.out HN.out (by rw [HF.out]; omega)).mono ?_
  rintro e w1 ⟨rfl, hr1, hk1⟩
  rw [HF.out]
  clear c1 H HD
  rcases HS.out with rfl | ⟨rfl, _, h95⟩
  · obtain ⟨ad1, buf1, hr1'⟩ := hr1.open
    have c1 := hr1'.c1
    simp only [List.cons_append, List.nil_append] at c1
    clear hr1'
    go_wp2_with fail
    refine (advance_any B b 1 _ _ hr1 (by simp)).mono ?_
    rintro e w2 ⟨rfl, hr2, hk2⟩
    have hr2' : Rst B b { r with str := t, off := r.off + (ds'.length + 1) + 1 } w2 := hr2.cast (by simp)
    have hk2' := hk1.trans hk2
    clear hr2 hr1 HS HN hk1 hk2
    obtain ⟨ad2, buf2, hr2''⟩ := hr2'.open
    have c2 := hr2''.c1
    simp only [] at c2
    clear hr2'' c1
    go_wp2_with fail
    refine (advance_any B b n _ _ hr2' hn).mono ?_
    rintro e w3 ⟨rfl, hr3, hk3⟩
    have hm : min n t.length = n := by omega
    clear c2 hr2'
    go_wp2_with fail
    go_loop [5] (fun i => ∃ k : Nat, k ≤ n ∧ i = .int .i64 k) (fun i => n - (intOf i).toNat)
    case atStart => exact ⟨0, Nat.zero_le _, rfl⟩
    case round =>
      obtain ⟨k, hk, rfl⟩ := hrel
      by_cases hlt : k < n
      · have hlt2 : k < t.length := by omega
        have hid := HB.out k hlt2 hlt
        unfold isId is10 at hid
        rcases hid with ⟨h1, h2⟩ | ⟨h1, h2⟩ | ⟨h1, h2⟩ | h1
        all_goals
          go_wp2_with fail
          go_round
          case rel => exact ⟨k + 1, by omega, by go_num⟩
          case measure => simp [intOf]; omega
      · have hkn : k = n := by omega
        subst hkn
        go_wp2_with fail
        go_ret2
        exact ⟨rfl, hr3.cast (by simp <;> omega), hk2'.trans hk3⟩
  · have hr2' : Rst B b { r with str := t, off := r.off + (ds'.length + 1) } w1 := hr1.cast (by simp)
    clear hr1 HS HN
    have hm : min n t.length = n := by omega
    cases t with
    | nil =>
      have hn0 : n = 0 := by simpa using hn
      subst hn0
      obtain ⟨ad2, buf2, hr2''⟩ := hr2'.open
      have c2 := hr2''.c1
      simp only [] at c2
      clear hr2''
      go_wp2_with fail
      refine (advance_any B b 0 _ _ hr2' hn).mono ?_
      rintro e w3 ⟨rfl, hr3, hk3⟩
      clear c2 hr2'
      go_wp2_with fail
      go_loop [5] (fun i => i = .int .i64 0) (fun i => 0)
      case atStart => rfl
      case round =>
        subst hrel
        go_wp2_with fail
        go_ret2
        exact ⟨rfl, hr3.cast (by simp <;> omega), hk1.trans hk3⟩
    | cons q t =>
      have hq : ((q.toNat : Int) == 95) = false := by
        have := h95 q rfl
        simp; omega
      clear h95
      obtain ⟨ad2, buf2, hr2''⟩ := hr2'.open
      have c2 := hr2''.c1
      simp only [] at c2
      clear hr2''
      have hn' : n ≤ t.length + 1 := by simpa using hn
      have hm' : min n (t.length + 1) = n := by simpa using hm
      go_wp2_with fail
      refine (advance_any B b n _ _ hr2' hn).mono ?_
      rintro e w3 ⟨rfl, hr3, hk3⟩
      obtain ⟨u, hu⟩ : ∃ u, u = q :: t := ⟨_, rfl⟩
      rw [← hu] at HB hr3 hn hm ⊢
      have HU := Lib.hid hu
      clear hu c2 hr2' hq hn' hm'
      go_wp2_with fail
      go_loop [5] (fun i => ∃ k : Nat, k ≤ n ∧ i = .int .i64 k) (fun i => n - (intOf i).toNat)
      case atStart => exact ⟨0, Nat.zero_le _, rfl⟩
      case round =>
        obtain ⟨k, hk, rfl⟩ := hrel
        by_cases hlt : k < n
        · have hlt2 : k < u.length := by omega
          have hid := HB.out k hlt2 hlt
          unfold isId is10 at hid
          rcases hid with ⟨h1, h2⟩ | ⟨h1, h2⟩ | ⟨h1, h2⟩ | h1
          all_goals
            go_wp2_with fail
            go_round
            case rel => exact ⟨k + 1, by omega, by go_num⟩
            case measure => simp [intOf]; omega
        · have hkn : k = n := by omega
          subst hkn
          go_wp2_with fail
          go_ret2
          exact ⟨by rw [← HU.out]; rfl, hr3.cast (by rw [← HU.out]), hk1.trans hk3⟩
end Go.Proofs.YtidokamjbglkbaaGreatDoor

