/- Numbers in base 62. -/
import Derived.Test.YtdapnoocmpbijaaGreatDoorY01
import Derived.Deep.LoopGhost
namespace Go.Proofs.YtdapnoocmpbijaaGreatDoor
open Go.RowKit

set_option maxHeartbeats 2000000 in
set_option maxRecDepth 100000 in
theorem base62_digits (B b : Nat) (ds rest : List UInt8) (r : RS) (w : World) (h : Rst B b { r with str := ds ++ 95 :: rest } w) (hne : ds ≠ []) (hd : ∀ c ∈ ds, is62 c)
    (hv : f62 ds 0 < 9223372036854775800) :
    Calls Tryz.prog 104 #[.pointer (some ⟨b, 0, none⟩)] w fun e w' =>
      e = .returned (.int .i64 ((f62 ds 0 + 1 : Nat) : Int)) ∧ Rst B b { r with str := rest, off := r.off + (ds.length + 1) } w' ∧ Kept B w w' := by
  obtain ⟨d, ds', rfl⟩ := List.exists_cons_of_ne_nil hne
  obtain ⟨ad, buf, h'⟩ := h.open
  have c1 := h'.c1
  have hd0 : (d.toNat == 95) = false := by
    have := hd d (by simp); unfold is62 at this; simp; omega
  have hd0' : ((d.toNat : Int) == 95) = false := by simp at hd0 ⊢; omega
  simp only [List.cons_append] at c1
  have HV := Lib.hid hv
  have HD := Lib.hid hd
  have HR := Lib.hid h
  have HH := Lib.hid h'
  clear hv hd h h' hne
  go_enter Tryz.func104, Tryz.ntmps104
  go_wp2_with fail
  go_loopg [3] (ds'.length + 2) (fun k v wr => ∃ (todo : List UInt8) (x o : Nat), k = todo.length + 1 ∧ v = .int .i64 x ∧ f62 todo x = f62 (d :: ds') 0 ∧ (∀ c ∈ todo, is62 c) ∧
    o + todo.length = r.off + (d :: ds').length ∧ todo.length ≤ (d :: ds').length ∧ Rst B b { r with str := todo ++ 95 :: rest, off := o } wr ∧ Kept B w wr)
  case atStart => exact ⟨d :: ds', 0, r.off, rfl, rfl, rfl, HD.out, rfl, Nat.le_refl _, HR.out, Kept.refl B w⟩
  case round =>
    obtain ⟨todo, x, o, rfl, rfl, hf, ht, hoo, htl, hr, hk⟩ := hrel
    clear c1 hd0 hd0'
    cases todo with
    | nil =>
      obtain ⟨ad2, buf2, hr'⟩ := hr.open
      have c1 := hr'.c1
      simp only [List.nil_append] at c1
      have hx : x < 9223372036854775800 := by have := HV.out; rw [← hf, f62_nil] at this; exact this
      have HF := Lib.hid hf
      have HO := Lib.hid hoo
      have hln := hr.len
      simp only [List.nil_append, List.length_cons] at hln
      clear hf ht hoo htl hr'
      go_wp2_with (go_at_call 82; refine (advance_any B b 1 _ _ hr (by simp)).mono ?_; rintro e w1 ⟨rfl, hr1, hk1⟩)
      go_ret
      refine ⟨?_, ?_, hk.trans hk1⟩
      · rw [← HF.out, f62_nil]; rfl
      · have h0 := HO.out
        simp at h0
        exact hr1.cast (by simp <;> omega)
    | cons c todo =>
      obtain ⟨ad2, buf2, hr'⟩ := hr.open
      have c1 := hr'.c1
      simp only [List.cons_append] at c1
      have hx : x * 62 + d62 c < 9223372036854775800 := by
        have := HV.out; rw [← hf, f62_cons] at this
        exact Nat.lt_of_le_of_lt (f62_ge todo _) this
      have hc := ht c (by simp)
      have hc95 : ((c.toNat : Int) == 95) = false := by unfold is62 at hc; simp; omega
      have HF := Lib.hid hf
      have HO := Lib.hid hoo
      have HT := Lib.hid ht
      have hln := hr.len
      simp only [List.cons_append, List.length_cons, List.length_append] at hln
      have fin : ∀ (n : Int) (w1 : World), n = ((x * 62 + d62 c : Nat) : Int) → Rst B b { r with str := todo ++ 95 :: rest, off := o + 1 } w1 → Kept B wr w1 →
          ∃ (todo' : List UInt8) (x' o' : Nat), todo.length + 1 = todo'.length + 1 ∧ Value.int .i64 n = .int .i64 (x' : Int) ∧ f62 todo' x' = f62 (d :: ds') 0 ∧ (∀ c ∈ todo', is62 c) ∧
            o' + todo'.length = r.off + (d :: ds').length ∧ todo'.length ≤ (d :: ds').length ∧ Rst B b { r with str := todo' ++ 95 :: rest, off := o' } w1 ∧ Kept B w w1 := by
        intro n w1 hn h1 h2
        refine ⟨todo, x * 62 + d62 c, o + 1, rfl, by rw [hn], ?_, fun c hc => ht c (by simp [hc]), by simp at hoo ⊢; omega, by simp at htl ⊢; omega, h1, hk.trans h2⟩
        rw [← hf, f62_cons]
      have FIN := Lib.hid fin
      clear hf ht hoo htl hr' fin
      unfold is62 at hc
      have hdv : d62 c = if c.toNat ≤ 57 then c.toNat - 48 else if c.toNat ≤ 90 then c.toNat - 65 + 36 else c.toNat - 97 + 10 := rfl
      rcases hc with ⟨hc1, hc2⟩ | ⟨hc1, hc2⟩ | ⟨hc1, hc2⟩
      · rw [if_pos hc2] at hdv
        have hx' : x * 62 + (c.toNat - 48) < 9223372036854775800 := by omega
        have HD2 := Lib.hid hdv
        clear hdv hx
        go_wp2_with (go_at_call 82; refine (advance_any B b 1 _ _ hr (by simp)).mono ?_; rintro e w1 ⟨rfl, hr1, hk1⟩)
        go_roundg (todo.length + 1)
        case measure => simp
        case rel => exact FIN.out _ _ (by rw [HD2.out]; omega) (hr1.cast (by simp)) hk1
      · rw [if_neg (by omega), if_neg (by omega)] at hdv
        have hx' : x * 62 + (c.toNat - 97 + 10) < 9223372036854775800 := by omega
        have HD2 := Lib.hid hdv
        clear hdv hx
        go_wp2_with (go_at_call 82; refine (advance_any B b 1 _ _ hr (by simp)).mono ?_; rintro e w1 ⟨rfl, hr1, hk1⟩)
        go_roundg (todo.length + 1)
        case measure => simp
        case rel => exact FIN.out _ _ (by rw [HD2.out]; omega) (hr1.cast (by simp)) hk1
      · rw [if_neg (by omega), if_pos (by omega)] at hdv
        have hx' : x * 62 + (c.toNat - 65 + 36) < 9223372036854775800 := by omega
        have HD2 := Lib.hid hdv
        clear hdv hx
        go_wp2_with (go_at_call 82; refine (advance_any B b 1 _ _ hr (by simp)).mono ?_; rintro e w1 ⟨rfl, hr1, hk1⟩)
        go_roundg (todo.length + 1)
        case measure => simp
        case rel => exact FIN.out _ _ (by rw [HD2.out]; omega) (hr1.cast (by simp)) hk1
end Go.Proofs.YtdapnoocmpbijaaGreatDoor

/- Decimal numbers, disambiguators, one wanted byte. -/
namespace Go.Proofs.YtdapnoocmpbijaaGreatDoor
open Go.RowKit

theorem isDigit_yes (n : Nat) (w : World) (h : 48 ≤ n ∧ n ≤ 57) : Calls Tryz.prog 69 #[.int .u8 n] w fun e w' => e = .returned (.bool true) ∧ w = w' := by
  obtain ⟨h1, h2⟩ := h
  go_enter Tryz.func69, Tryz.ntmps69
  go_wp2
  go_ret
  exact ⟨by simp; omega, rfl⟩

theorem isDigit_no (n : Nat) (w : World) (h : n < 48 ∨ 57 < n) : Calls Tryz.prog 69 #[.int .u8 n] w fun e w' => e = .returned (.bool false) ∧ w = w' := by
  rcases h with h | h
  · go_enter Tryz.func69, Tryz.ntmps69
    go_wp2
    go_ret
    exact ⟨rfl, rfl⟩
  · have h0 : 48 ≤ n := by omega
    go_enter Tryz.func69, Tryz.ntmps69
    go_wp2
    go_ret
    exact ⟨by simp; omega, rfl⟩

set_option maxHeartbeats 1000000 in
theorem checkChar_ok (B b : Nat) (c : UInt8) (rest : List UInt8) (r : RS) (w : World) (h : Rst B b { r with str := c :: rest } w) :
    Calls Tryz.prog 88 #[.pointer (some ⟨b, 0, none⟩), .int .u8 c.toNat] w fun e w' => e = .returned (.tuple #[]) ∧ Rst B b { r with str := rest, off := r.off + 1 } w' ∧ Kept B w w' := by
  obtain ⟨ad, buf, h'⟩ := h.open
  have c1 := h'.c1
  simp only [] at c1
  have hln := h.len
  simp only [List.length_cons] at hln
  go_enter Tryz.func88, Tryz.ntmps88
  go_wp2_with (go_at_call 82; refine (advance_any B b 1 _ _ h (by simp)).mono ?_; rintro e w1 ⟨rfl, hr1, hk1⟩)
  go_end0
  exact ⟨rfl, hr1.cast (by simp), hk1⟩

set_option maxHeartbeats 2000000 in
set_option maxRecDepth 100000 in
theorem decimal_any (B b : Nat) (ds rest : List UInt8) (r : RS) (w : World) (h : Rst B b { r with str := ds ++ rest } w) (hne : ds ≠ []) (hd : ∀ c ∈ ds, is10 c) (hnd : noDig rest)
    (hv : f10 ds 0 ≤ 10000000) :
    Calls Tryz.prog 117 #[.pointer (some ⟨b, 0, none⟩)] w fun e w' =>
      e = .returned (.int .i64 ((f10 ds 0 : Nat) : Int)) ∧ Rst B b { r with str := rest, off := r.off + ds.length } w' ∧ Kept B w w' := by
  obtain ⟨d, ds', rfl⟩ := List.exists_cons_of_ne_nil hne
  obtain ⟨ad, buf, h'⟩ := h.open
  have c1 := h'.c1
  simp only [List.cons_append] at c1
  have HV := Lib.hid hv
  have HD := Lib.hid hd
  have HN := Lib.hid hnd
  have HR := Lib.hid h
  have hln := h.len
  simp only [List.cons_append, List.length_cons, List.length_append] at hln
  clear hv hd h h' hne hnd
  go_enter Tryz.func117, Tryz.ntmps117
  go_wp2_with fail
  go_loopg [3] (ds'.length + 2) (fun k v wr => ∃ (todo : List UInt8) (x o : Nat), k = todo.length + 1 ∧ v = .int .i64 x ∧ f10 todo x = f10 (d :: ds') 0 ∧ (∀ c ∈ todo, is10 c) ∧
    o + todo.length = r.off + (d :: ds').length ∧ todo.length ≤ (d :: ds').length ∧ Rst B b { r with str := todo ++ rest, off := o } wr ∧ Kept B w wr)
  case atStart => exact ⟨d :: ds', 0, r.off, rfl, rfl, rfl, HD.out, rfl, Nat.le_refl _, HR.out, Kept.refl B w⟩
  case round =>
    obtain ⟨todo, x, o, rfl, rfl, hf, ht, hoo, htl, hr, hk⟩ := hrel
    clear c1
    cases todo with
    | nil =>
      have fin : Value.int IntKind.i64 (x : Int) = .int .i64 ((f10 (d :: ds') 0 : Nat) : Int) ∧ Rst B b { r with str := rest, off := r.off + (ds'.length + 1) } wr := by
        refine ⟨by rw [← hf, f10_nil], hr.cast ?_⟩
        simp at hoo; simp [hoo]
      have FIN := Lib.hid fin
      clear hf ht hoo htl fin
      cases rest with
      | nil =>
        obtain ⟨ad2, buf2, hr'⟩ := hr.open
        have c1 := hr'.c1
        simp only [List.nil_append] at c1
        clear hr hr'
        go_wp2_with fail
        go_ret
        exact ⟨congrArg Ending.returned FIN.out.1, FIN.out.2, hk⟩
      | cons q rest =>
        obtain ⟨ad2, buf2, hr'⟩ := hr.open
        have c1 := hr'.c1
        have hln2 := hr.len
        simp only [List.nil_append, List.length_cons] at hln2
        simp only [List.nil_append] at c1
        have hq : q.toNat < 48 ∨ 57 < q.toNat := by
          have := HN.out q rfl; unfold is10 at this; omega
        clear hr hr'
        go_wp2_with (go_at_call 69; refine (isDigit_no q.toNat _ hq).mono ?_; rintro e w1 ⟨rfl, rfl⟩)
        go_ret
        exact ⟨congrArg Ending.returned FIN.out.1, FIN.out.2, hk⟩
    | cons c todo =>
      obtain ⟨ad2, buf2, hr'⟩ := hr.open
      have c1 := hr'.c1
      simp only [List.cons_append] at c1
      have hx : x * 10 + (c.toNat - 48) ≤ 10000000 := by
        have := HV.out; rw [← hf, f10_cons] at this
        exact Nat.le_trans (f10_ge todo _) this
      have hc := ht c (by simp)
      have hln2 := hr.len
      simp only [List.cons_append, List.length_cons, List.length_append] at hln2
      have fin : ∀ (n : Int) (w1 : World), n = ((x * 10 + (c.toNat - 48) : Nat) : Int) → Rst B b { r with str := todo ++ rest, off := o + 1 } w1 → Kept B wr w1 →
          ∃ (todo' : List UInt8) (x' o' : Nat), todo.length + 1 = todo'.length + 1 ∧ Value.int .i64 n = .int .i64 (x' : Int) ∧ f10 todo' x' = f10 (d :: ds') 0 ∧ (∀ c ∈ todo', is10 c) ∧
            o' + todo'.length = r.off + (d :: ds').length ∧ todo'.length ≤ (d :: ds').length ∧ Rst B b { r with str := todo' ++ rest, off := o' } w1 ∧ Kept B w w1 := by
        intro n w1 hn h1 h2
        refine ⟨todo, x * 10 + (c.toNat - 48), o + 1, rfl, by rw [hn], ?_, fun c hc => ht c (by simp [hc]), by simp at hoo ⊢; omega, by simp at htl ⊢; omega, h1, hk.trans h2⟩
        rw [← hf, f10_cons]
      have FIN := Lib.hid fin
      clear hf ht hoo htl hr' fin
      unfold is10 at hc
      have HC := Lib.hid hc
      obtain ⟨hc1, hc2⟩ := hc
      go_wp2_with (first
        | (go_at_call 69; refine (isDigit_yes c.toNat _ HC.out).mono ?_; rintro e w1 ⟨rfl, rfl⟩)
        | (go_at_call 82; refine (advance_any B b 1 _ _ hr (by simp)).mono ?_; rintro e w1 ⟨rfl, hr1, hk1⟩))
      go_roundg (todo.length + 1)
      case measure => simp
      case rel => exact FIN.out _ _ (by omega) (hr1.cast (by simp)) hk1
end Go.Proofs.YtdapnoocmpbijaaGreatDoor

/- base 62 as it is written; disambiguators; lifetimes. -/
namespace Go.Proofs.YtdapnoocmpbijaaGreatDoor
open Go.RowKit

theorem RS.wr_wr (r : RS) (a b : List UInt8) : (r.wr a).wr b = r.wr (a ++ b) := by
  cases hs : r.skip with
  | true => simp [RS.wr, hs]
  | false =>
    rcases List.eq_nil_or_concat b with rfl | ⟨b, c, rfl⟩
    · simp [RS.wr, hs]
    · simp [RS.wr, hs]
theorem RS.wr_len (r : RS) (l : List UInt8) : (r.wr l).out.length ≤ r.out.length + l.length := by
  cases hs : r.skip <;> simp [RS.wr, hs]
@[simp] theorem RS.wr_orig (r : RS) (l : List UInt8) : (r.wr l).orig = r.orig := rfl
@[simp] theorem RS.wr_str (r : RS) (l : List UInt8) : (r.wr l).str = r.str := rfl
@[simp] theorem RS.wr_off (r : RS) (l : List UInt8) : (r.wr l).off = r.off := rfl
@[simp] theorem RS.wr_sk (r : RS) (l : List UInt8) : (r.wr l).skip = r.skip := rfl
@[simp] theorem RS.wr_life (r : RS) (l : List UInt8) : (r.wr l).life = r.life := rfl

theorem writeByteN (B b : Nat) (r : RS) (c : UInt8) (n : Int) (w : World) (h : Rst B b r w) (hn : (c.toNat : Int) = n) (hl : r.skip = false → r.out.length + 1 ≤ 140737488355328) :
    Calls Tryz.prog 53 #[.pointer (some ⟨b, 0, none⟩), .int .u8 n] w fun e w' => e = .returned (.tuple #[]) ∧ Rst B b (r.wr [c]) w' ∧ Kept B w w' := by
  subst hn; exact writeByte_any B b r c w h hl

theorem base62_zero (B b : Nat) (rest : List UInt8) (r : RS) (w : World) (h : Rst B b { r with str := 95 :: rest } w) :
    Calls Tryz.prog 104 #[.pointer (some ⟨b, 0, none⟩)] w fun e w' => e = .returned (.int .i64 0) ∧ Rst B b { r with str := rest, off := r.off + 1 } w' ∧ Kept B w w' := by
  obtain ⟨ad, buf, h'⟩ := h.open
  have c1 := h'.c1
  simp only [] at c1
  have hln := h.len
  simp only [List.length_cons] at hln
  go_enter Tryz.func104, Tryz.ntmps104
  go_wp2_with fail
  refine (advance_any B b 1 _ _ h (by simp)).mono ?_
  rintro e w1 ⟨rfl, hr1, hk1⟩
  go_wp2_with fail
  go_ret
  exact ⟨rfl, hr1.cast (by simp), hk1⟩

theorem base62_any (B b n : Nat) (rest : List UInt8) (r : RS) (w : World) (h : Rst B b { r with str := b62 n ++ rest } w) (hn : n ≤ 4611686018427387904) :
    Calls Tryz.prog 104 #[.pointer (some ⟨b, 0, none⟩)] w fun e w' => e = .returned (.int .i64 n) ∧ Rst B b { r with str := rest, off := r.off + (b62 n).length } w' ∧ Kept B w w' := by
  have hl := b62_len n hn
  by_cases h0 : n = 0
  · subst h0
    refine (base62_zero B b rest r w (h.cast (by simp [b62]))).mono ?_
    rintro e w1 ⟨rfl, hr, hk⟩
    exact ⟨rfl, hr.cast (by simp [b62]), hk⟩
  · have e1 : b62 n = e62 (n - 1) [] ++ [95] := by unfold b62; rw [if_neg h0]
    have hf := e62_f (n - 1) []
    rw [f62_nil] at hf
    rw [e1] at h hl ⊢
    rw [List.length_append] at hl
    refine (base62_digits B b (e62 (n - 1) []) rest r w (h.cast (by simp)) (e62_ne _ _) (e62_is _ _ (by simp)) (by omega)).mono ?_
    rintro e w1 ⟨rfl, hr, hk⟩
    refine ⟨?_, hr.cast (by simp), hk⟩
    rw [hf]; congr 2; omega

set_option maxHeartbeats 1000000 in
theorem disamb_any (B b n : Nat) (rest : List UInt8) (r : RS) (w : World) (h : Rst B b { r with str := dis n ++ rest } w) (hn : n ≤ 4611686018427387904)
    (hr0 : ∃ c l, rest = c :: l ∧ c.toNat ≠ 115) :
    Calls Tryz.prog 99 #[.pointer (some ⟨b, 0, none⟩)] w fun e w' => e = .returned (.int .i64 n) ∧ Rst B b { r with str := rest, off := r.off + (dis n).length } w' ∧ Kept B w w' := by
  obtain ⟨q, l, rfl, hq⟩ := hr0
  have hq' : ((q.toNat : Int) != 115) = true := by simp; omega
  by_cases h0 : n = 0
  · subst h0
    have h1 : Rst B b { r with str := q :: l } w := h.cast (by simp [dis])
    obtain ⟨ad, buf, h'⟩ := h1.open
    have c1 := h'.c1
    simp only [] at c1
    have hln := h1.len
    simp only [List.length_cons] at hln
    clear h hq
    go_enter Tryz.func99, Tryz.ntmps99
    go_wp2_with fail
    go_ret
    exact ⟨rfl, h1.cast (by simp [dis]), Kept.refl B w⟩
  · have e1 : dis n = 115 :: b62 (n - 1) := by unfold dis; rw [if_neg h0]
    have hl := b62_len (n - 1) (by omega)
    have h1 : Rst B b { r with str := 115 :: (b62 (n - 1) ++ (q :: l)) } w := h.cast (by simp [e1])
    obtain ⟨ad, buf, h'⟩ := h1.open
    have c1 := h'.c1
    simp only [] at c1
    have E1 := Lib.hid e1
    have hln := h1.len
    simp only [List.length_cons, List.length_append] at hln
    have hnn : 1 ≤ n := by omega
    clear h e1 h' hq hq'
    go_enter Tryz.func99, Tryz.ntmps99
    go_wp2_with fail
    refine (advance_any B b 1 _ _ h1 (by simp)).mono ?_
    rintro e w1 ⟨rfl, hr1, hk1⟩
    go_wp2_with fail
    refine (base62_any B b (n - 1) (q :: l) { r with off := r.off + 1 } _ (hr1.cast (by simp)) (by omega)).mono ?_
    rintro e w2 ⟨rfl, hr2, hk2⟩
    have hz : ((n - 1 : Nat) : Int) ≤ 4611686018427387904 := by omega
    go_wp2_with fail
    go_ret
    refine ⟨?_, hr2.cast (by rw [E1.out]; simp; omega), hk1.trans hk2⟩
    simp; omega
end Go.Proofs.YtdapnoocmpbijaaGreatDoor

/- Identifiers without Punycode. -/
namespace Go.Proofs.YtdapnoocmpbijaaGreatDoor
open Go.RowKit

theorem noDig_us (tl : List UInt8) : noDig (95 :: tl) := by
  intro c hc
  simp at hc; subst hc
  decide

/-- The bytes from k on are good. -/
def IdAt (t : List UInt8) (n : Nat) : Prop := ∀ k (h : k < t.length), k < n → isId t[k]

set_option maxHeartbeats 4000000 in
set_option maxRecDepth 100000 in
theorem undis_plain (B b n : Nat) (ds sep t : List UInt8) (r : RS) (w : World) (h : Rst B b { r with str := ds ++ (sep ++ t) } w) (hne : ds ≠ []) (hd : ∀ c ∈ ds, is10 c)
    (hf : f10 ds 0 = n) (hb : IdAt t n) (hn : n ≤ t.length) (hbl : n ≤ 1000000) (hsep : SepOk sep t) :
    Calls Tryz.prog 100 #[.pointer (some ⟨b, 0, none⟩)] w fun e w' =>
      e = .returned (.tuple #[.string (bs (t.take n)), .bool false]) ∧ Rst B b { r with str := t.drop n, off := r.off + ds.length + sep.length + n } w' ∧ Kept B w w' := by
  obtain ⟨d, ds', rfl⟩ := List.exists_cons_of_ne_nil hne
  obtain ⟨ad, buf, h'⟩ := h.open
  have c1 := h'.c1
  simp only [List.cons_append] at c1
  have hd0 : ((d.toNat : Int) == 117) = false := by
    have := hd d (by simp); unfold is10 at this; simp; omega
  have hnd : noDig (sep ++ t) := by
    rcases hsep with rfl | ⟨rfl, hs, _⟩
    · exact noDig_us _
    · simpa using hs
  have hln := h.len
  simp only [List.cons_append, List.length_cons, List.length_append] at hln
  have HF := Lib.hid hf
  have HD := Lib.hid hd
  have HN := Lib.hid hnd
  have HB := Lib.hid hb
  have HS := Lib.hid hsep
  have H := Lib.hid h
  clear hf hd hnd hb hsep h h' hne
  go_enter Tryz.func100, Tryz.ntmps100
  go_wp2_with fail
  refine (decimal_any B b (d :: ds') (sep ++ t) r _ (H.out.cast (by simp)) (by simp) HD.out HN.out (by rw [HF.out]; omega)).mono ?_
  rintro e w1 ⟨rfl, hr1, hk1⟩
  rw [HF.out]
  clear c1 H HD
  rcases HS.out with rfl | ⟨rfl, _, h95⟩
  · obtain ⟨ad1, buf1, hr1'⟩ := hr1.open
    have c1 := hr1'.c1
    simp only [List.cons_append, List.nil_append] at c1
    clear hr1'
    go_wp2_with fail
    refine (advance_any B b 1 _ _ hr1 (by simp)).mono ?_
    rintro e w2 ⟨rfl, hr2, hk2⟩
    have hr2' : Rst B b { r with str := t, off := r.off + (ds'.length + 1) + 1 } w2 := hr2.cast (by simp)
    have hk2' := hk1.trans hk2
    clear hr2 hr1 HS HN hk1 hk2
    obtain ⟨ad2, buf2, hr2''⟩ := hr2'.open
    have c2 := hr2''.c1
    simp only [] at c2
    clear hr2'' c1
    go_wp2_with fail
    refine (advance_any B b n _ _ hr2' hn).mono ?_
    rintro e w3 ⟨rfl, hr3, hk3⟩
    have hm : min n t.length = n := by omega
    clear c2 hr2'
    go_wp2_with fail
    go_loop [5] (fun i => ∃ k : Nat, k ≤ n ∧ i = .int .i64 k) (fun i => n - (intOf i).toNat)
    case atStart => exact ⟨0, Nat.zero_le _, rfl⟩
    case round =>
      obtain ⟨k, hk, rfl⟩ := hrel
      by_cases hlt : k < n
      · have hlt2 : k < t.length := by omega
        have hid := HB.out k hlt2 hlt
        unfold isId is10 at hid
        rcases hid with ⟨h1, h2⟩ | ⟨h1, h2⟩ | ⟨h1, h2⟩ | h1
        all_goals
          go_wp2_with fail
          go_round
          case rel => exact ⟨k + 1, by omega, by go_num⟩
          case measure => simp [intOf]; omega
      · have hkn : k = n := by omega
        subst hkn
        go_wp2_with fail
        go_ret2
        exact ⟨rfl, hr3.cast (by simp <;> omega), hk2'.trans hk3⟩
  · have hr2' : Rst B b { r with str := t, off := r.off + (ds'.length + 1) } w1 := hr1.cast (by simp)
    clear hr1 HS HN
    have hm : min n t.length = n := by omega
    cases t with
    | nil =>
      have hn0 : n = 0 := by simpa using hn
      subst hn0
      obtain ⟨ad2, buf2, hr2''⟩ := hr2'.open
      have c2 := hr2''.c1
      simp only [] at c2
      clear hr2''
      go_wp2_with fail
      refine (advance_any B b 0 _ _ hr2' hn).mono ?_
      rintro e w3 ⟨rfl, hr3, hk3⟩
      clear c2 hr2'
      go_wp2_with fail
      go_loop [5] (fun i => i = .int .i64 0) (fun i => 0)
      case atStart => rfl
      case round =>
        subst hrel
        go_wp2_with fail
        go_ret2
        exact ⟨rfl, hr3.cast (by simp <;> omega), hk1.trans hk3⟩
    | cons q t =>
      have hq : ((q.toNat : Int) == 95) = false := by
        have := h95 q rfl
        simp; omega
      clear h95
      obtain ⟨ad2, buf2, hr2''⟩ := hr2'.open
      have c2 := hr2''.c1
      simp only [] at c2
      clear hr2''
      have hn' : n ≤ t.length + 1 := by simpa using hn
      have hm' : min n (t.length + 1) = n := by simpa using hm
      go_wp2_with fail
      refine (advance_any B b n _ _ hr2' hn).mono ?_
      rintro e w3 ⟨rfl, hr3, hk3⟩
      obtain ⟨u, hu⟩ : ∃ u, u = q :: t := ⟨_, rfl⟩
      rw [← hu] at HB hr3 hn hm ⊢
      have HU := Lib.hid hu
      clear hu c2 hr2' hq hn' hm'
      go_wp2_with fail
      go_loop [5] (fun i => ∃ k : Nat, k ≤ n ∧ i = .int .i64 k) (fun i => n - (intOf i).toNat)
      case atStart => exact ⟨0, Nat.zero_le _, rfl⟩
      case round =>
        obtain ⟨k, hk, rfl⟩ := hrel
        by_cases hlt : k < n
        · have hlt2 : k < u.length := by omega
          have hid := HB.out k hlt2 hlt
          unfold isId is10 at hid
          rcases hid with ⟨h1, h2⟩ | ⟨h1, h2⟩ | ⟨h1, h2⟩ | h1
          all_goals
            go_wp2_with fail
            go_round
            case rel => exact ⟨k + 1, by omega, by go_num⟩
            case measure => simp [intOf]; omega
        · have hkn : k = n := by omega
          subst hkn
          go_wp2_with fail
          go_ret2
          exact ⟨by rw [← HU.out]; rfl, hr3.cast (by rw [← HU.out]), hk1.trans hk3⟩
end Go.Proofs.YtdapnoocmpbijaaGreatDoor

/- What a part of the reader says: from one rest of the name to another it writes a text. -/
namespace Go.Proofs.YtdapnoocmpbijaaGreatDoor
open Go.RowKit

/-- A box: a block of one cell. -/
def Box (k : Nat) (T : TypeId) (v : Value) (w : World) : Prop := w.heap[k]? = some (.cells #[v] T (0, 0))
theorem Box.lt {k : Nat} {T : TypeId} {v : Value} {w : World} (h : Box k T v w) : k < w.heap.size := (Array.getElem?_eq_some_iff.1 h).1
theorem Box.cell {k : Nat} {T : TypeId} {v : Value} {w : World} (h : Box k T v w) : w.cell? ⟨k, 0, none⟩ = some v := by rw [cellAt h]; rfl
theorem Box.fz {k : Nat} {T : TypeId} {v : Value} {w : World} (h : Box k T v w) : w.frozen? ⟨k, 0, none⟩ = false := Lib.frozen_of_heap h 0
theorem Box.kind {k : Nat} {T : TypeId} {v : Value} {w : World} (h : Box k T v w) : kindOf w.heap[k]? = some T := by unfold Box at h; rw [h]; rfl
theorem Box.kept {B k : Nat} {T : TypeId} {v : Value} {w w' : World} (h : Box k T v w) (hk : Kept B w w') (hT : T ≠ tR ∧ T ≠ tB) : Box k T v w' := by
  unfold Box at h ⊢
  rw [hk.block k (Box.lt h) (.inr (by rw [h]; exact ⟨fun e => hT.1 (Option.some.inj e), fun e => hT.2 (Option.some.inj e)⟩))]
  exact h
theorem Box.new (w : World) (T : TypeId) (v : Value) : Box w.heap.size T v (w.alloc (.cells #[v] T)) := heap_alloc_new w _
theorem Box.alloc {k : Nat} {T : TypeId} {v : Value} {w : World} (h : Box k T v w) (o : Obj) : Box k T v (w.alloc o) := (Below.heap_alloc _ _ _ h.lt).trans h
theorem Box.drew {k : Nat} {T : TypeId} {v : Value} {w : World} (h : Box k T v w) : Box k T v w.drew := h
theorem Box.drewN {k : Nat} {T : TypeId} {v : Value} {w : World} (h : Box k T v w) (n : Nat) : Box k T v (w.drewN n) := h
theorem boxes2 (w : World) (T U : TypeId) (x y : Value) :
    Box w.heap.size T x ((w.alloc (.cells #[x] T)).alloc (.cells #[y] U)) ∧ Box (w.heap.size + 1) U y ((w.alloc (.cells #[x] T)).alloc (.cells #[y] U)) := by
  refine ⟨(Box.new w T x).alloc _, ?_⟩
  have := Box.new (w.alloc (.cells #[x] T)) U y
  simpa using this

/-- The reader as it is behind a part. -/
def RS.to (r : RS) (k : List UInt8) (o : Nat) (txt : List UInt8) (l : Nat) : RS :=
  { r with str := k, off := o, out := if r.skip then r.out else r.out ++ txt, last := l }
theorem RS.to_to (r : RS) (k k' : List UInt8) (o o' l l' : Nat) (t t' : List UInt8) : (r.to k o t l).to k' o' t' l' = r.to k' o' (t ++ t') l' := by
  cases hs : r.skip <;> simp [RS.to, hs]
theorem RS.to_wr (r : RS) (k : List UInt8) (o l : Nat) (t t' : List UInt8) : (r.to k o t l).wr t' = r.to k o (t ++ t') (if r.skip then l else (t'.getLast?.map UInt8.toNat).getD l) := by
  cases hs : r.skip <;> simp [RS.to, RS.wr, hs]
theorem RS.to_len (r : RS) (k : List UInt8) (o l : Nat) (t : List UInt8) : (r.to k o t l).out.length ≤ r.out.length + t.length := by
  cases hs : r.skip <;> simp [RS.to, hs]
@[simp] theorem RS.to_skip (r : RS) (k : List UInt8) (o l : Nat) (t : List UInt8) : (r.to k o t l).skip = r.skip := rfl
@[simp] theorem RS.to_life (r : RS) (k : List UInt8) (o l : Nat) (t : List UInt8) : (r.to k o t l).life = r.life := rfl
@[simp] theorem RS.to_str (r : RS) (k : List UInt8) (o l : Nat) (t : List UInt8) : (r.to k o t l).str = k := rfl
@[simp] theorem RS.to_orig (r : RS) (k : List UInt8) (o l : Nat) (t : List UInt8) : (r.to k o t l).orig = r.orig := rfl
@[simp] theorem RS.to_off (r : RS) (k : List UInt8) (o l : Nat) (t : List UInt8) : (r.to k o t l).off = o := rfl

/-- What r is when it has just moved on. -/
theorem RS.to_nil (r : RS) (k : List UInt8) (o : Nat) : { r with str := k, off := o } = r.to k o [] r.last := by
  cases r with | mk a b c d e f g => cases e <;> simp [RS.to]

theorem adv1 (B b : Nat) (c : UInt8) (k : List UInt8) (r : RS) (w : World) (h : Rst B b r w) (hs : r.str = c :: k) :
    Calls Tryz.prog 82 #[.pointer (some ⟨b, 0, none⟩), .int .i64 1] w fun e w' => e = .returned (.tuple #[]) ∧ Rst B b (r.to k (r.off + 1) [] r.last) w' ∧ Kept B w w' := by
  refine (advance_any B b 1 r w h (by rw [hs]; simp)).mono ?_
  rintro e w' ⟨rfl, hr, hk⟩
  exact ⟨rfl, hr.cast (by rw [← RS.to_nil, hs]; rfl), hk⟩

theorem chk (B b : Nat) (c : UInt8) (n : Int) (k : List UInt8) (r : RS) (w : World) (h : Rst B b r w) (hs : r.str = c :: k) (hn : (c.toNat : Int) = n) :
    Calls Tryz.prog 88 #[.pointer (some ⟨b, 0, none⟩), .int .u8 n] w fun e w' => e = .returned (.tuple #[]) ∧ Rst B b (r.to k (r.off + 1) [] r.last) w' ∧ Kept B w w' := by
  subst hn
  refine (checkChar_ok B b c k r w (h.cast (by cases r; simp_all))).mono ?_
  rintro e w' ⟨rfl, hr, hk⟩
  exact ⟨rfl, hr.cast (by rw [← RS.to_nil]), hk⟩

/-- Behind a part: it has read up to k and written txt; what the last byte is, is good by G. -/
def Post (B b : Nat) (r : RS) (inp k txt : List UInt8) (G : Nat → Prop) (w : World) (e : Ending) (w' : World) : Prop :=
  e = .returned (.tuple #[]) ∧ ∃ o l : Nat, o + k.length = r.off + inp.length ∧ (r.skip = false → G l) ∧ Rst B b (r.to k o txt l) w' ∧ Kept B w w'

/-- A part of the reader, from inp to k: it says txt where lb lifetimes are bound (sk: silently). -/
def Says (f : FuncId) (xs : Array Value) (lb : Nat) (sk : Bool) (inp k txt : List UInt8) (G : Nat → Prop) : Prop :=
  ∀ (B b : Nat) (r : RS) (w : World), Rst B b r w → r.skip = sk → r.life = lb → r.str = inp → (r.skip = false → r.out.length + txt.length ≤ 1000000000) →
    Calls Tryz.prog f (#[.pointer (some ⟨b, 0, none⟩)] ++ xs) w (Post B b r inp k txt G w)

abbrev T0 : Nat → Prop := fun _ => True
abbrev NS : Nat → Prop := fun l => l ≠ 32

/-- Where the reader stands within a part that began at r0, in w0: k is left to read, txt has been written. -/
def At (B b : Nat) (r0 : RS) (w0 : World) (k txt : List UInt8) (G : Nat → Prop) (w : World) : Prop :=
  ∃ o l : Nat, o + k.length = r0.off + r0.str.length ∧ (r0.skip = false → G l) ∧ Rst B b (r0.to k o txt l) w ∧ Kept B w0 w

section
variable {B b : Nat} {r0 : RS} {w0 w : World} {k txt : List UInt8} {G : Nat → Prop}
theorem At.start (h : Rst B b r0 w) : At B b r0 w r0.str [] (fun l => l = r0.last) w :=
  ⟨r0.off, r0.last, rfl, fun _ => rfl, h.cast (by cases r0 with | mk a b c d e f g => cases e <;> simp [RS.to]), Kept.refl B w⟩
theorem At.kept (h : At B b r0 w0 k txt G w) : Kept B w0 w := by obtain ⟨_, _, _, _, _, h⟩ := h; exact h
theorem At.len (h : At B b r0 w0 k txt G w) : r0.off + r0.str.length ≤ 1000000000 ∧ k.length ≤ 1000000000 := by
  obtain ⟨o, l, h1, _, h2, _⟩ := h
  have := h2.len
  simp at this; omega
theorem At.lt (h : At B b r0 w0 k txt G w) : b < w.heap.size := by obtain ⟨_, _, _, _, h, _⟩ := h; exact h.lt
theorem At.c1 (h : At B b r0 w0 k txt G w) : w.cell? ⟨b, 1, none⟩ = some (.string (bs k)) := by
  obtain ⟨_, _, _, _, ⟨ad, buf, h⟩, _⟩ := h; exact h.c1
theorem At.c5 (h : At B b r0 w0 k txt G w) : w.cell? ⟨b, 5, none⟩ = some (.bool r0.skip) := by
  obtain ⟨_, _, _, _, ⟨ad, buf, h⟩, _⟩ := h; exact h.c5
theorem At.c6 (h : At B b r0 w0 k txt G w) : w.cell? ⟨b, 6, none⟩ = some (.int .i64 r0.life) := by
  obtain ⟨_, _, _, _, ⟨ad, buf, h⟩, _⟩ := h; exact h.c6
theorem At.c8 (h : At B b r0 w0 k txt G w) : w.cell? ⟨b, 8, none⟩ = some (.bool false) := by
  obtain ⟨_, _, _, _, ⟨ad, buf, h⟩, _⟩ := h; exact h.c8
theorem At.fz (h : At B b r0 w0 k txt G w) (j : Nat) : w.frozen? ⟨b, j, none⟩ = false := by
  obtain ⟨_, _, _, _, ⟨ad, buf, h⟩, _⟩ := h; exact h.fz j
theorem At.drewN (h : At B b r0 w0 k txt G w) (n : Nat) : At B b r0 w0 k txt G (w.drewN n) := by
  obtain ⟨o, l, h1, h2, h3, h4⟩ := h; exact ⟨o, l, h1, h2, h3.drewN n, h4.drewN n⟩
theorem At.alloc (h : At B b r0 w0 k txt G w) (x : Obj) : At B b r0 w0 k txt G (w.alloc x) := by
  obtain ⟨o, l, h1, h2, h3, h4⟩ := h; exact ⟨o, l, h1, h2, h3.alloc x, h4.alloc x⟩
theorem At.mono {G' : Nat → Prop} (h : At B b r0 w0 k txt G w) (hG : ∀ l, G l → G' l) : At B b r0 w0 k txt G' w := by
  obtain ⟨o, l, h1, h2, h3, h4⟩ := h; exact ⟨o, l, h1, fun e => hG l (h2 e), h3, h4⟩
theorem At.to {k' txt' : List UInt8} (h : At B b r0 w0 k txt G w) (hk : k = k') (ht : txt = txt') : At B b r0 w0 k' txt' G w := by subst hk; subst ht; exact h
theorem At.box {n : Nat} {T : TypeId} {v : Value} (h : At B b r0 w0 k txt G w) (hb : Box n T v w0) (hT : T ≠ tR ∧ T ≠ tB) : w.cell? ⟨n, 0, none⟩ = some v := (hb.kept h.kept hT).cell

theorem At.adv (c : UInt8) (h : At B b r0 w0 (c :: k) txt G w) :
    Calls Tryz.prog 82 #[.pointer (some ⟨b, 0, none⟩), .int .i64 1] w fun e w' => e = .returned (.tuple #[]) ∧ At B b r0 w0 k txt G w' := by
  obtain ⟨o, l, h1, h2, h3, h4⟩ := h
  refine (adv1 B b c k _ w h3 rfl).mono ?_
  rintro e w' ⟨rfl, hr, hk⟩
  rw [RS.to_to, List.append_nil] at hr
  exact ⟨rfl, o + 1, l, by simp at h1; omega, h2, hr, h4.trans hk⟩

theorem At.chk (c : UInt8) (n : Int) (hn : (c.toNat : Int) = n) (h : At B b r0 w0 (c :: k) txt G w) :
    Calls Tryz.prog 88 #[.pointer (some ⟨b, 0, none⟩), .int .u8 n] w fun e w' => e = .returned (.tuple #[]) ∧ At B b r0 w0 k txt G w' := by
  obtain ⟨o, l, h1, h2, h3, h4⟩ := h
  refine (Go.Proofs.YtdapnoocmpbijaaGreatDoor.chk B b c n k _ w h3 rfl hn).mono ?_
  rintro e w' ⟨rfl, hr, hk⟩
  rw [RS.to_to, List.append_nil] at hr
  exact ⟨rfl, o + 1, l, by simp at h1; omega, h2, hr, h4.trans hk⟩

theorem At.ws (t : List UInt8) (ht : t ≠ []) (h : At B b r0 w0 k txt G w) (hl : r0.skip = false → r0.out.length + (txt.length + t.length) ≤ 1000000000) :
    Calls Tryz.prog 52 #[.pointer (some ⟨b, 0, none⟩), .string (bs t)] w fun e w' => e = .returned (.tuple #[]) ∧ At B b r0 w0 k (txt ++ t) (fun l => l = (t.getLast ht).toNat) w' := by
  obtain ⟨o, l, h1, h2, h3, h4⟩ := h
  have hb := RS.to_len r0 k o l txt
  refine (writeText B b _ t w h3 (fun e => by have := hl e; omega)).mono ?_
  rintro e w' ⟨rfl, hr, hk⟩
  rw [RS.to_wr] at hr
  refine ⟨rfl, o, _, h1, ?_, hr, h4.trans hk⟩
  intro e
  simp only [e]
  rw [List.getLast?_eq_some_getLast ht]
  rfl

theorem At.ws0 (t : List UInt8) (h : At B b r0 w0 k txt G w) (hl : r0.skip = false → r0.out.length + (txt.length + t.length) ≤ 1000000000) :
    Calls Tryz.prog 52 #[.pointer (some ⟨b, 0, none⟩), .string (bs t)] w fun e w' => e = .returned (.tuple #[]) ∧ At B b r0 w0 k (txt ++ t) (fun _ => True) w' := by
  obtain ⟨o, l, h1, h2, h3, h4⟩ := h
  have hb := RS.to_len r0 k o l txt
  refine (writeText B b _ t w h3 (fun e => by have := hl e; omega)).mono ?_
  rintro e w' ⟨rfl, hr, hk⟩
  rw [RS.to_wr] at hr
  exact ⟨rfl, o, _, h1, fun _ => trivial, hr, h4.trans hk⟩

theorem At.wb (c : UInt8) (n : Int) (hn : (c.toNat : Int) = n) (h : At B b r0 w0 k txt G w) (hl : r0.skip = false → r0.out.length + (txt.length + 1) ≤ 1000000000) :
    Calls Tryz.prog 53 #[.pointer (some ⟨b, 0, none⟩), .int .u8 n] w fun e w' => e = .returned (.tuple #[]) ∧ At B b r0 w0 k (txt ++ [c]) (fun l => l = c.toNat) w' := by
  obtain ⟨o, l, h1, h2, h3, h4⟩ := h
  have hb := RS.to_len r0 k o l txt
  refine (writeByteN B b _ c n w h3 hn (fun e => by have := hl e; omega)).mono ?_
  rintro e w' ⟨rfl, hr, hk⟩
  rw [RS.to_wr] at hr
  refine ⟨rfl, o, _, h1, ?_, hr, h4.trans hk⟩
  intro e
  simp [e]

theorem At.says {f : FuncId} {xs : Array Value} {lb : Nat} {sk : Bool} {k' t : List UInt8} {G' : Nat → Prop} (hf : Says f xs lb sk k k' t G') (h : At B b r0 w0 k txt G w) (hs : r0.skip = sk) (hb : r0.life = lb)
    (hl : r0.skip = false → r0.out.length + (txt.length + t.length) ≤ 1000000000) :
    Calls Tryz.prog f (#[.pointer (some ⟨b, 0, none⟩)] ++ xs) w fun e w' => e = .returned (.tuple #[]) ∧ At B b r0 w0 k' (txt ++ t) G' w' := by
  obtain ⟨o, l, h1, h2, h3, h4⟩ := h
  have hb2 := RS.to_len r0 k o l txt
  refine (hf B b _ w h3 hs hb rfl (fun e => by have := hl e; omega)).mono ?_
  rintro e w' ⟨rfl, o', l', ho, hG, hr, hk⟩
  rw [RS.to_to] at hr
  exact ⟨rfl, o', l', by simp at ho; omega, hG, hr, h4.trans hk⟩

theorem At.post {inp : List UInt8} {w1 : World} (h : At B b r0 w0 k txt G w) (hi : r0.str = inp) (h0 : Kept B w1 w0) : Post B b r0 inp k txt G w1 (.returned (.tuple #[])) w := by
  obtain ⟨o, l, h1, h2, h3, h4⟩ := h
  exact ⟨rfl, o, l, by rw [← hi]; exact h1, h2, h3, h0.trans h4⟩
end

/-- identifier: it gives a disambiguator and a name. -/
def Names (inp k : List UInt8) (n : Nat) (name : List UInt8) : Prop :=
  ∀ (B b : Nat) (r0 : RS) (w0 w : World) (txt : List UInt8) (G : Nat → Prop), At B b r0 w0 inp txt G w →
    Calls Tryz.prog 83 #[.pointer (some ⟨b, 0, none⟩)] w fun e w' => e = .returned (.tuple #[.int .i64 n, .string (bs name)]) ∧ At B b r0 w0 k txt G w'

/-- undisambiguatedIdentifier: likewise. -/
def Undis (inp k name : List UInt8) (puny : Bool) : Prop :=
  ∀ (B b : Nat) (r0 : RS) (w0 w : World) (txt : List UInt8) (G : Nat → Prop), At B b r0 w0 inp txt G w →
    Calls Tryz.prog 100 #[.pointer (some ⟨b, 0, none⟩)] w fun e w' => e = .returned (.tuple #[.string (bs name), .bool puny]) ∧ At B b r0 w0 k txt G w'

/-- A call that only reads on. -/
theorem At.moved {B b : Nat} {r0 : RS} {w0 w w' : World} {k k' txt : List UInt8} {G : Nat → Prop} {o l o' : Nat} (h1 : o + k.length = r0.off + r0.str.length) (h2 : r0.skip = false → G l) (h4 : Kept B w0 w) (ho : o' + k'.length = o + k.length)
    (hr : Rst B b { r0.to k o txt l with str := k', off := o' } w') (hk : Kept B w w') : At B b r0 w0 k' txt G w' :=
  ⟨o', l, by omega, h2, hr.cast rfl, h4.trans hk⟩

theorem undis_mk (n : Nat) (ds sep t : List UInt8) (hne : ds ≠ []) (hd : ∀ c ∈ ds, is10 c)
    (hf : f10 ds 0 = n) (hb : IdAt t n) (hn : n ≤ t.length) (hbl : n ≤ 1000000) (hsep : SepOk sep t) : Undis (ds ++ (sep ++ t)) (t.drop n) (t.take n) false := by
  intro B b r0 w0 w txt G h
  obtain ⟨o, l, h1, h2, h3, h4⟩ := h
  refine (undis_plain B b n ds sep t (r0.to (ds ++ (sep ++ t)) o txt l) w (h3.cast rfl) hne hd hf hb hn hbl hsep).mono ?_
  rintro e w' ⟨rfl, hr, hk⟩
  exact ⟨rfl, At.moved h1 h2 h4 (by simp; omega) hr hk⟩

theorem At.base62 {B b : Nat} {r0 : RS} {w0 w : World} {txt : List UInt8} {G : Nat → Prop} (n : Nat) (k : List UInt8) (hn : n ≤ 4611686018427387904) (h : At B b r0 w0 (b62 n ++ k) txt G w) :
    Calls Tryz.prog 104 #[.pointer (some ⟨b, 0, none⟩)] w fun e w' => e = .returned (.int .i64 n) ∧ At B b r0 w0 k txt G w' := by
  obtain ⟨o, l, h1, h2, h3, h4⟩ := h
  refine (base62_any B b n k (r0.to (b62 n ++ k) o txt l) w (h3.cast rfl) hn).mono ?_
  rintro e w' ⟨rfl, hr, hk⟩
  exact ⟨rfl, At.moved h1 h2 h4 (by simp; omega) hr hk⟩

theorem At.disamb {B b : Nat} {r0 : RS} {w0 w : World} {txt : List UInt8} {G : Nat → Prop} (n : Nat) (k : List UInt8) (hn : n ≤ 4611686018427387904) (hr0 : ∃ c l, k = c :: l ∧ c.toNat ≠ 115) (h : At B b r0 w0 (dis n ++ k) txt G w) :
    Calls Tryz.prog 99 #[.pointer (some ⟨b, 0, none⟩)] w fun e w' => e = .returned (.int .i64 n) ∧ At B b r0 w0 k txt G w' := by
  obtain ⟨o, l, h1, h2, h3, h4⟩ := h
  refine (disamb_any B b n k (r0.to (dis n ++ k) o txt l) w (h3.cast rfl) hn hr0).mono ?_
  rintro e w' ⟨rfl, hr, hk⟩
  exact ⟨rfl, At.moved h1 h2 h4 (by simp; omega) hr hk⟩

set_option maxHeartbeats 1000000 in
theorem names_mk (n : Nat) (inp k name : List UInt8) (p : Bool) (h : Undis inp k name p) (hn : n ≤ 4611686018427387904) (h0 : ∃ c l, inp = c :: l ∧ c.toNat ≠ 115) : Names (dis n ++ inp) k n name := by
  intro B b r0 w0 w txt G hr
  have H0 := Lib.hid h0
  clear h0
  go_enter Tryz.func83, Tryz.ntmps83
  go_wp2_with fail
  refine (hr.disamb n inp hn H0.out).mono ?_
  rintro e w1 ⟨rfl, hr1⟩
  go_wp2_with fail
  refine (h B b _ _ _ _ _ hr1).mono ?_
  rintro e w2 ⟨rfl, hr2⟩
  go_wp2_with fail
  go_ret2
  exact ⟨rfl, hr2⟩
end Go.Proofs.YtdapnoocmpbijaaGreatDoor

/- symbolName. -/
namespace Go.Proofs.YtdapnoocmpbijaaGreatDoor
open Go.RowKit

set_option maxHeartbeats 4000000 in
set_option maxRecDepth 100000 in
theorem symbol_any (lb : Nat) (sk : Bool) (c : UInt8) (inp txt : List UInt8) (G : Nat → Prop) (hp : Says 70 #[.bool true] lb sk (c :: inp) [] txt G) (hc : c.toNat < 48 ∨ 57 < c.toNat) :
    Says 50 #[] lb sk (c :: inp) [] txt G := by
  intro B b r w hr hsk hlb hi ho
  have c1 : w.cell? ⟨b, 1, none⟩ = some (.string (bs r.str)) := by obtain ⟨ad, buf, h'⟩ := hr; exact h'.c1
  rw [hi] at c1
  have HI := Lib.hid hi
  have HSK := Lib.hid hsk
  have HLB := Lib.hid hlb
  have HC := Lib.hid hc
  have A := At.start hr
  rw [hi] at A
  have HO := Lib.hid ho
  clear hi hsk hlb hc ho
  go_enter Tryz.func50, Tryz.ntmps50
  go_wp2_with (first
    | (go_at_call 69; refine (isDigit_no c.toNat _ HC.out).mono ?_; rintro e w' ⟨rfl, rfl⟩)
    | (go_at_call 70; refine (A.says hp HSK.out HLB.out (fun e => by simpa using HO.out e)).mono ?_))
  rintro e w1 ⟨rfl, A'⟩
  clear c1 A
  have c1 := A'.c1
  go_wp2
  go_end0
  exact A'.to rfl rfl |>.post HI.out (Kept.refl B w)
end Go.Proofs.YtdapnoocmpbijaaGreatDoor

