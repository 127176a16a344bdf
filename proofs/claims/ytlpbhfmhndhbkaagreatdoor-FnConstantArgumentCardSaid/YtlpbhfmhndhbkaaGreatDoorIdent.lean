/- Identifiers without Punycode. -/
import Derived.Test.YtlpbhfmhndhbkaaGreatDoorScan3
namespace Go.Proofs.YtlpbhfmhndhbkaaGreatDoor
open Go.RowKit

theorem noDig_us (tl : List UInt8) : noDig (95 :: tl) := by
  intro c hc
  simp at hc; subst hc
  decide

/-- The bytes from k on are good. -/
def IdAt (t : List UInt8) (n : Nat) : Prop := ∀ k (h : k < t.length), k < n → isId t[k]

set_option maxHeartbeats 4000000 in
set_option maxRecDepth 100000 in
theorem undis_plain (B b n : Nat) (ds sep t : List UInt8) (r : RS) (w : World) (h : Rst B b { r with str := ds ++ (sep ++ t) } w) (hne : ds ≠ []) (hd : ∀ c ∈ ds, is10 c)
    (hf : f10 ds 0 = n) (hb : IdAt t n) (hn : n ≤ t.length) (hbl : n ≤ 1000000) (hsep : SepOk sep t) :
    Calls Tryz.prog 112 #[.pointer (some ⟨b, 0, none⟩)] w fun e w' =>
      e = .returned (.tuple #[.string (bs (t.take n)), .bool false]) ∧ Rst B b { r with str := t.drop n, off := r.off + ds.length + sep.length + n } w' ∧ Kept B w w' := by
  obtain ⟨d, ds', rfl⟩ := List.exists_cons_of_ne_nil hne
  obtain ⟨ad, buf, h'⟩ := h.open
  have c1 := h'.c1
  simp only [List.cons_append] at c1
  have hd0 : ((d.toNat : Int) == 117) = false := by
    have := hd d (by simp); unfold is10 at this; simp; omega
  have hnd : noDig (sep ++ t) := by
    rcases hsep with rfl | ⟨rfl, hs, _⟩
    · exact noDig_us _
    · simpa using hs
  have hln := h.len
  simp only [List.cons_append, List.length_cons, List.length_append] at hln
  have HF := Lib.hid hf
  have HD := Lib.hid hd
  have HN := Lib.hid hnd
  have HB := Lib.hid hb
  have HS := Lib.hid hsep
  have H := Lib.hid h
  clear hf hd hnd hb hsep h h' hne
  go_enter Tryz.func112, Tryz.ntmps112
  go_wp2_with fail
  refine (decimal_any B b (d :: ds') (sep ++ t) r _ (H.out.cast (by simp)) (by simp) HD.out HN.out (by rw [HF.out]; omega)).mono ?_
  rintro e w1 ⟨rfl, hr1, hk1⟩
  rw [HF.out]
  clear c1 H HD
  rcases HS.out with rfl | ⟨rfl, _, h95⟩
  · obtain ⟨ad1, buf1, hr1'⟩ := hr1.open
    have c1 := hr1'.c1
    simp only [List.cons_append, List.nil_append] at c1
    clear hr1'
    go_wp2_with fail
    refine (advance_any B b 1 _ _ hr1 (by simp)).mono ?_
    rintro e w2 ⟨rfl, hr2, hk2⟩
    have hr2' : Rst B b { r with str := t, off := r.off + (ds'.length + 1) + 1 } w2 := hr2.cast (by simp)
    have hk2' := hk1.trans hk2
    clear hr2 hr1 HS HN hk1 hk2
    obtain ⟨ad2, buf2, hr2''⟩ := hr2'.open
    have c2 := hr2''.c1
    simp only [] at c2
    clear hr2'' c1
    go_wp2_with fail
    refine (advance_any B b n _ _ hr2' hn).mono ?_
    rintro e w3 ⟨rfl, hr3, hk3⟩
    have hm : min n t.length = n := by omega
    clear c2 hr2'
    go_wp2_with fail
    go_loop [5] (fun i => ∃ k : Nat, k ≤ n ∧ i = .int .i64 k) (fun i => n - (intOf i).toNat)
    case atStart => exact ⟨0, Nat.zero_le _, rfl⟩
    case round =>
      obtain ⟨k, hk, rfl⟩ := hrel
      by_cases hlt : k < n
      · have hlt2 : k < t.length := by omega
        have hid := HB.out k hlt2 hlt
        unfold isId is10 at hid
        rcases hid with ⟨h1, h2⟩ | ⟨h1, h2⟩ | ⟨h1, h2⟩ | h1
        all_goals
          go_wp2_with fail
          go_round
          case rel => exact ⟨k + 1, by omega, by go_num⟩
          case measure => simp [intOf]; omega
      · have hkn : k = n := by omega
        subst hkn
        go_wp2_with fail
        go_ret2
        exact ⟨rfl, hr3.cast (by simp <;> omega), hk2'.trans hk3⟩
  · have hr2' : Rst B b { r with str := t, off := r.off + (ds'.length + 1) } w1 := hr1.cast (by simp)
    clear hr1 HS HN
    have hm : min n t.length = n := by omega
    cases t with
    | nil =>
      have hn0 : n = 0 := by simpa using hn
      subst hn0
      obtain ⟨ad2, buf2, hr2''⟩ := hr2'.open
      have c2 := hr2''.c1
      simp only [] at c2
      clear hr2''
      go_wp2_with fail
      refine (advance_any B b 0 _ _ hr2' hn).mono ?_
      rintro e w3 ⟨rfl, hr3, hk3⟩
      clear c2 hr2'
      go_wp2_with fail
      go_loop [5] (fun i => i = .int .i64 0) (fun i => 0)
      case atStart => rfl
      case round =>
        subst hrel
        go_wp2_with fail
        go_ret2
        exact ⟨rfl, hr3.cast (by simp <;> omega), hk1.trans hk3⟩
    | cons q t =>
      have hq : ((q.toNat : Int) == 95) = false := by
        have := h95 q rfl
        simp; omega
      clear h95
      obtain ⟨ad2, buf2, hr2''⟩ := hr2'.open
      have c2 := hr2''.c1
      simp only [] at c2
      clear hr2''
      have hn' : n ≤ t.length + 1 := by simpa using hn
      have hm' : min n (t.length + 1) = n := by simpa using hm
      go_wp2_with fail
      refine (advance_any B b n _ _ hr2' hn).mono ?_
      rintro e w3 ⟨rfl, hr3, hk3⟩
      obtain ⟨u, hu⟩ : ∃ u, u = q :: t := ⟨_, rfl⟩
      rw [← hu] at HB hr3 hn hm ⊢
      have HU := Lib.hid hu
      clear hu c2 hr2' hq hn' hm'
      go_wp2_with fail
      go_loop [5] (fun i => ∃ k : Nat, k ≤ n ∧ i = .int .i64 k) (fun i => n - (intOf i).toNat)
      case atStart => exact ⟨0, Nat.zero_le _, rfl⟩
      case round =>
        obtain ⟨k, hk, rfl⟩ := hrel
        by_cases hlt : k < n
        · have hlt2 : k < u.length := by omega
          have hid := HB.out k hlt2 hlt
          unfold isId is10 at hid
          rcases hid with ⟨h1, h2⟩ | ⟨h1, h2⟩ | ⟨h1, h2⟩ | h1
          all_goals
            go_wp2_with fail
            go_round
            case rel => exact ⟨k + 1, by omega, by go_num⟩
            case measure => simp [intOf]; omega
        · have hkn : k = n := by omega
          subst hkn
          go_wp2_with fail
          go_ret2
          exact ⟨by rw [← HU.out]; rfl, hr3.cast (by rw [← HU.out]), hk1.trans hk3⟩
end Go.Proofs.YtlpbhfmhndhbkaaGreatDoor
