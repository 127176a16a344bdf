/- base 62 as it is written; disambiguators; lifetimes. -/
import Derived.Test.YtlpbhfmhndhbkaaGreatDoorScan2
namespace Go.Proofs.YtlpbhfmhndhbkaaGreatDoor
open Go.RowKit

theorem RS.wr_wr (r : RS) (a b : List UInt8) : (r.wr a).wr b = r.wr (a ++ b) := by
  cases hs : r.skip with
  | true => simp [RS.wr, hs]
  | false =>
    rcases List.eq_nil_or_concat b with rfl | ⟨b, c, rfl⟩
    · simp [RS.wr, hs]
    · simp [RS.wr, hs]
theorem RS.wr_len (r : RS) (l : List UInt8) : (r.wr l).out.length ≤ r.out.length + l.length := by
  cases hs : r.skip <;> simp [RS.wr, hs]
@[simp] theorem RS.wr_orig (r : RS) (l : List UInt8) : (r.wr l).orig = r.orig := rfl
@[simp] theorem RS.wr_str (r : RS) (l : List UInt8) : (r.wr l).str = r.str := rfl
@[simp] theorem RS.wr_off (r : RS) (l : List UInt8) : (r.wr l).off = r.off := rfl
@[simp] theorem RS.wr_sk (r : RS) (l : List UInt8) : (r.wr l).skip = r.skip := rfl
@[simp] theorem RS.wr_life (r : RS) (l : List UInt8) : (r.wr l).life = r.life := rfl

theorem writeByteN (B b : Nat) (r : RS) (c : UInt8) (n : Int) (w : World) (h : Rst B b r w) (hn : (c.toNat : Int) = n) (hl : r.skip = false → r.out.length + 1 ≤ 140737488355328) :
    Calls Tryz.prog 52 #[.pointer (some ⟨b, 0, none⟩), .int .u8 n] w fun e w' => e = .returned (.tuple #[]) ∧ Rst B b (r.wr [c]) w' ∧ Kept B w w' := by
  subst hn; exact writeByte_any B b r c w h hl

theorem base62_zero (B b : Nat) (rest : List UInt8) (r : RS) (w : World) (h : Rst B b { r with str := 95 :: rest } w) :
    Calls Tryz.prog 74 #[.pointer (some ⟨b, 0, none⟩)] w fun e w' => e = .returned (.int .i64 0) ∧ Rst B b { r with str := rest, off := r.off + 1 } w' ∧ Kept B w w' := by
  obtain ⟨ad, buf, h'⟩ := h.open
  have c1 := h'.c1
  simp only [] at c1
  have hln := h.len
  simp only [List.length_cons] at hln
  go_enter Tryz.func74, Tryz.ntmps74
  go_wp2_with fail
  refine (advance_any B b 1 _ _ h (by simp)).mono ?_
  rintro e w1 ⟨rfl, hr1, hk1⟩
  go_wp2_with fail
  go_ret
  exact ⟨rfl, hr1.cast (by simp), hk1⟩

theorem base62_any (B b n : Nat) (rest : List UInt8) (r : RS) (w : World) (h : Rst B b { r with str := b62 n ++ rest } w) (hn : n ≤ 4611686018427387904) :
    Calls Tryz.prog 74 #[.pointer (some ⟨b, 0, none⟩)] w fun e w' => e = .returned (.int .i64 n) ∧ Rst B b { r with str := rest, off := r.off + (b62 n).length } w' ∧ Kept B w w' := by
  have hl := b62_len n hn
  by_cases h0 : n = 0
  · subst h0
    refine (base62_zero B b rest r w (h.cast (by simp [b62]))).mono ?_
    rintro e w1 ⟨rfl, hr, hk⟩
    exact ⟨rfl, hr.cast (by simp [b62]), hk⟩
  · have e1 : b62 n = e62 (n - 1) [] ++ [95] := by unfold b62; rw [if_neg h0]
    have hf := e62_f (n - 1) []
    rw [f62_nil] at hf
    rw [e1] at h hl ⊢
    rw [List.length_append] at hl
    refine (base62_digits B b (e62 (n - 1) []) rest r w (h.cast (by simp)) (e62_ne _ _) (e62_is _ _ (by simp)) (by omega)).mono ?_
    rintro e w1 ⟨rfl, hr, hk⟩
    refine ⟨?_, hr.cast (by simp), hk⟩
    rw [hf]; congr 2; omega

set_option maxHeartbeats 1000000 in
theorem disamb_any (B b n : Nat) (rest : List UInt8) (r : RS) (w : World) (h : Rst B b { r with str := dis n ++ rest } w) (hn : n ≤ 4611686018427387904)
    (hr0 : ∃ c l, rest = c :: l ∧ c.toNat ≠ 115) :
    Calls Tryz.prog 111 #[.pointer (some ⟨b, 0, none⟩)] w fun e w' => e = .returned (.int .i64 n) ∧ Rst B b { r with str := rest, off := r.off + (dis n).length } w' ∧ Kept B w w' := by
  obtain ⟨q, l, rfl, hq⟩ := hr0
  have hq' : ((q.toNat : Int) != 115) = true := by simp; omega
  by_cases h0 : n = 0
  · subst h0
    have h1 : Rst B b { r with str := q :: l } w := h.cast (by simp [dis])
    obtain ⟨ad, buf, h'⟩ := h1.open
    have c1 := h'.c1
    simp only [] at c1
    have hln := h1.len
    simp only [List.length_cons] at hln
    clear h hq
    go_enter Tryz.func111, Tryz.ntmps111
    go_wp2_with fail
    go_ret
    exact ⟨rfl, h1.cast (by simp [dis]), Kept.refl B w⟩
  · have e1 : dis n = 115 :: b62 (n - 1) := by unfold dis; rw [if_neg h0]
    have hl := b62_len (n - 1) (by omega)
    have h1 : Rst B b { r with str := 115 :: (b62 (n - 1) ++ (q :: l)) } w := h.cast (by simp [e1])
    obtain ⟨ad, buf, h'⟩ := h1.open
    have c1 := h'.c1
    simp only [] at c1
    have E1 := Lib.hid e1
    have hln := h1.len
    simp only [List.length_cons, List.length_append] at hln
    have hnn : 1 ≤ n := by omega
    clear h e1 h' hq hq'
    go_enter Tryz.func111, Tryz.ntmps111
    go_wp2_with fail
    refine (advance_any B b 1 _ _ h1 (by simp)).mono ?_
    rintro e w1 ⟨rfl, hr1, hk1⟩
    go_wp2_with fail
    refine (base62_any B b (n - 1) (q :: l) { r with off := r.off + 1 } _ (hr1.cast (by simp)) (by omega)).mono ?_
    rintro e w2 ⟨rfl, hr2, hk2⟩
    have hz : ((n - 1 : Nat) : Int) ≤ 4611686018427387904 := by omega
    go_wp2_with fail
    go_ret
    refine ⟨?_, hr2.cast (by rw [E1.out]; simp; omega), hk1.trans hk2⟩
    simp; omega
end Go.Proofs.YtlpbhfmhndhbkaaGreatDoor
