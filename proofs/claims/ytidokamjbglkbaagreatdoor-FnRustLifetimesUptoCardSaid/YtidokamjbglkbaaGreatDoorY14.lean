/- Names, read: plain ones and those in Punycode. -/
import Derived.Test.YtidokamjbglkbaaGreatDoorY13
import Derived.Test.YtidokamjbglkbaaGreatDoorY11
import Derived.Test.YtidokamjbglkbaaGreatDoorY10
import Derived.Test.YtidokamjbglkbaaGreatDoorY02
namespace Go.Proofs.YtidokamjbglkbaaGreatDoor
open Go.RowKit

theorem At.dec {B b : Nat} {r0 : RS} {w0 w : World} {txt : List UInt8} {G : Nat → Prop} (ds k : List UInt8) (hne : ds ≠ []) (hd : ∀ c ∈ ds, is10 c) (hk : noDig k) (hb : f10 ds 0 ≤ 1000000) (h : At B b r0 w0 (ds ++ k) txt G w) :
    Calls Tryz.prog 117 #[.pointer (some ⟨b, 0, none⟩)] w fun e w' => e = .returned (.int .i64 (f10 ds 0)) ∧ At B b r0 w0 k txt G w' := by
  obtain ⟨o, l, h1, h2, h3, h4⟩ := h
  refine (decimal_any B b ds k (r0.to (ds ++ k) o txt l) w (h3.cast rfl) hne hd hk (by omega)).mono ?_
  rintro e w' ⟨rfl, hr, hk⟩
  exact ⟨rfl, At.moved h1 h2 h4 (by simp; omega) hr hk⟩
theorem At.advn {B b : Nat} {r0 : RS} {w0 w : World} {k txt : List UInt8} {G : Nat → Prop} (n : Nat) (hn : n ≤ k.length) (h : At B b r0 w0 k txt G w) :
    Calls Tryz.prog 83 #[.pointer (some ⟨b, 0, none⟩), .int .i64 n] w fun e w' => e = .returned (.tuple #[]) ∧ At B b r0 w0 (k.drop n) txt G w' := by
  obtain ⟨o, l, h1, h2, h3, h4⟩ := h
  refine (advance_any B b n _ w h3 (by simpa using hn)).mono ?_
  rintro e w' ⟨rfl, hr, hk⟩
  exact ⟨rfl, At.moved h1 h2 h4 (by simp; omega) hr hk⟩

set_option maxHeartbeats 4000000 in
set_option maxRecDepth 100000 in
theorem undis_puny (n : Nat) (ds sep t out : List UInt8) (hx : ∀ (b : Nat) (w : World), Calls Tryz.prog 118 #[.pointer (some ⟨b, 0, none⟩), .string (bs (t.take n))] w fun e w' => e = .returned (.string (bs out)) ∧ Below w.heap.size w w')
    (hne : ds ≠ []) (hd : ∀ c ∈ ds, is10 c) (hf : f10 ds 0 = n) (hb : IdAt t n) (hn : n ≤ t.length) (hbl : n ≤ 1000000) (hsep : SepOk sep t) (ht : t ≠ []) : Undis (117 :: (ds ++ (sep ++ t))) (t.drop n) out true := by
  intro B b r0 w0 w txt G A
  have Ac1 := A.c1
  have Aln := A.len.2
  simp only [List.length_cons, List.length_append] at Aln
  have hnd : noDig (sep ++ t) := by
    rcases hsep with rfl | ⟨rfl, hs, _⟩
    · exact noDig_us _
    · simpa using hs
  have HF := Lib.hid hf
  have HD := Lib.hid hd
  have HN := Lib.hid hnd
  have HB := Lib.hid hb
  have HS := Lib.hid hsep
  have HX := Lib.hid hx
  have HNE := Lib.hid hne
  clear hf hd hnd hb hsep hx hne
  go_enter Tryz.func101, Tryz.ntmps101
  go_wp2_with fail
  refine (A.adv 117).mono ?_
  rintro e w1 ⟨rfl, A1⟩
  clear A Ac1
  go_wp2_with fail
  refine (A1.dec ds (sep ++ t) HNE.out HD.out HN.out (by rw [HF.out]; omega)).mono ?_
  rintro e w2 ⟨rfl, A2⟩
  clear A1 HD HN
  rw [HF.out]
  have hm : min n t.length = n := by omega
  obtain ⟨q, t', hq⟩ := List.exists_cons_of_ne_nil ht
  have key : ∀ (w3 : World), At B b r0 w0 t txt G w3 → True := fun _ _ => trivial
  clear key
  rcases HS.out with rfl | ⟨rfl, _, h95⟩
  · have Ac1 := A2.c1
    simp only [List.cons_append, List.nil_append] at Ac1 Aln
    have HQ := Lib.hid hq
    clear HS hq
    go_wp2_with fail
    refine (A2.adv 95).mono ?_
    rintro e w3 ⟨rfl, A3⟩
    clear A2 Ac1
    have Ac1 := A3.c1
    go_wp2_with fail
    refine (A3.advn n hn).mono ?_
    rintro e w4 ⟨rfl, A4⟩
    clear A3 Ac1
    go_wp2_with fail
    go_loop [5] (fun i => ∃ k : Nat, k ≤ n ∧ i = .int .i64 k) (fun i => n - (intOf i).toNat)
    case atStart => exact ⟨0, Nat.zero_le _, rfl⟩
    case round =>
      obtain ⟨k, hk, rfl⟩ := hrel
      by_cases hlt : k < n
      · have hlt2 : k < t.length := by omega
        have hid := HB.out k hlt2 hlt
        unfold isId is10 at hid
        rcases hid with ⟨h1, h2⟩ | ⟨h1, h2⟩ | ⟨h1, h2⟩ | h1
        all_goals
          go_wp2_with fail
          go_round
          case rel => exact ⟨k + 1, by omega, by go_num⟩
          case measure => simp [intOf]; omega
      · have hkn : k = n := by omega
        subst hkn
        go_wp2_with fail
        refine (HX.out b _).mono ?_
        rintro e w5 ⟨rfl, b5⟩
        go_wp2_with fail
        go_ret2
        exact ⟨rfl, A4.below b5⟩
  · have hq95 : ((q.toNat : Int) == 95) = false := by
      have := h95 q (by rw [hq]; rfl)
      simp; omega
    clear h95
    have Ac1 := A2.c1
    simp only [List.nil_append] at Ac1 A2 Aln
    have hcs := congrArg bs hq
    have hln : (t.length : Int) = t'.length + 1 := by rw [hq]; simp
    have Ac2 : w2.cell? ⟨b, 1, none⟩ = some (.string (bs (q :: t'))) := by rw [← hq]; exact Ac1
    have hnl : (n : Int) ≤ t'.length + 1 := by omega
    have hm2 : min n (t'.length + 1) = n := by omega
    have hn2 : n ≤ t'.length + 1 := by omega
    have HQ := Lib.hid hq
    have HAC := Lib.hid Ac1
    clear HS Ac1 hq hcs hln hm
    go_wp2_with fail
    refine (A2.advn n hn).mono ?_
    rintro e w4 ⟨rfl, A4⟩
    clear A2 Ac2
    have e1 : (bs (q :: t')).extract 0 n = bs (t.take n) := by rw [bs_take, HQ.out]
    have e0 : bs ((q :: t').take n) = bs (t.take n) := by rw [HQ.out]
    rw [e0]
    have hm : min n t.length = n := by omega
    clear hm2 hq95
    go_wp2_with fail
    go_loop [5] (fun i => ∃ k : Nat, k ≤ n ∧ i = .int .i64 k) (fun i => n - (intOf i).toNat)
    case atStart => exact ⟨0, Nat.zero_le _, rfl⟩
    case round =>
      obtain ⟨k, hk, rfl⟩ := hrel
      by_cases hlt : k < n
      · have hlt2 : k < t.length := by omega
        have hid := HB.out k hlt2 hlt
        unfold isId is10 at hid
        rcases hid with ⟨h1, h2⟩ | ⟨h1, h2⟩ | ⟨h1, h2⟩ | h1
        all_goals
          go_wp2_with fail
          go_round
          case rel => exact ⟨k + 1, by omega, by go_num⟩
          case measure => simp [intOf]; omega
      · have hkn : k = n := by omega
        subst hkn
        go_wp2_with fail
        refine (HX.out b _).mono ?_
        rintro e w5 ⟨rfl, b5⟩
        go_wp2_with fail
        go_ret2
        exact ⟨rfl, A4.below b5⟩

theorem Pun.empty {i n bias : Nat} {out fin : List Nat} {e : List UInt8} (h : Pun i n bias out e fin) (he : e = []) : fin = out := by
  cases h with
  | done => rfl
  | step _ _ _ delta q r _ rest _ =>
    exfalso
    have := congrArg List.length he
    unfold wdelta at this
    rw [digitsOf] at this
    split at this <;> simp at this
/-- A name that may be written is read as it is. -/
theorem undis_name {nm : List UInt8} (h : nameB nm = true) (k : List UInt8) : ∃ p, Undis (idW nm ++ k) k nm p := by
  rcases nameB_cases h with ⟨hne, hid, hl, e⟩ | ⟨hne, hv, hl, hok, e⟩
  · refine ⟨false, ?_⟩
    have hs := sep_counted nm k hne
    have := undis_mk nm.length (Lib.decDigits nm.length) (if startsDU nm then [95] else []) (nm ++ k) (dec_ne _) (dec_is10 _) (dec_f10 _) (fun j hj hj2 => by rw [List.getElem_append_left hj2]; exact hid _ (List.getElem_mem hj2)) (by simp) (by omega) hs
    rw [e, counted']
    simpa using this
  · refine ⟨true, ?_⟩
    obtain ⟨hpid, hplen, hback, e2, he2, hP, hlet, hbas⟩ := puny_name hv hl hok
    obtain ⟨pt, hpt⟩ : ∃ pt, pt = punyOf (chars nm) := ⟨_, rfl⟩
    rw [← hpt] at hpid hplen he2 e
    have hlen2 : (basicOf (chars nm)).length ≤ (chars nm).length := List.length_filter_le _ _
    have hx : ∀ (b : Nat) (w : World), Calls Tryz.prog 118 #[.pointer (some ⟨b, 0, none⟩), .string (bs pt)] w fun en w' => en = .returned (.string (bs nm)) ∧ Below w.heap.size w w' := by
      intro b w
      rw [← hback]
      by_cases hb0 : (basicOf (chars nm)).length = 0
      · have hb1 : basicOf (chars nm) = [] := List.eq_nil_of_length_eq_zero hb0
        rw [hb1] at he2 hP
        have : pt = e2 := by rw [he2]; simp [bytesOf]
        rw [this]
        refine expand_bare e2 (chars nm) b (fun c hc => hlet c hc) (by rw [← this]; omega) hl hP w
      · have hp0 : bytesOf (basicOf (chars nm)) ≠ [] := by
          intro e0
          have := congrArg List.length e0
          simp [bytesOf] at this
          exact hb0 (by rw [this]; rfl)
        have e3 : pt = bytesOf (basicOf (chars nm)) ++ 95 :: e2 := by rw [he2, if_neg hb0]; simp
        have e4 : (bytesOf (basicOf (chars nm))).map UInt8.toNat = basicOf (chars nm) := by
          unfold bytesOf
          rw [List.map_map]
          have : ∀ x ∈ basicOf (chars nm), (UInt8.toNat ∘ UInt8.ofNat) x = x := fun x hx => by
            have := (isIdN_nat (hbas x hx)).2
            show (UInt8.ofNat x).toNat = x
            rw [UInt8.toNat_ofNat_of_lt' (by show x < 256; omega)]
          rw [List.map_congr_left this, List.map_id']
        rw [e3]
        refine expand_pre _ e2 ?_ ?_ (chars nm) b (fun c hc => hlet c hc) ?_ hl (by rw [e4]; exact hP) w
        · intro c hc
          obtain ⟨x, hx, rfl⟩ := List.mem_map.1 hc
          have := (isIdN_nat (hbas x hx)).2
          rw [UInt8.toNat_ofNat_of_lt' (by show x < 256; omega)]; exact this
        · simp [bytesOf]; omega
        · have := congrArg List.length e3
          simp [bytesOf] at this; omega
    have hpne : pt ≠ [] := by
      intro e0
      rw [e0] at he2
      have h1 := congrArg List.length he2
      simp only [List.length_nil, List.length_append, bytesOf, List.length_map] at h1
      have hb0 : basicOf (chars nm) = [] := List.eq_nil_of_length_eq_zero (by omega)
      have he0 : e2 = [] := List.eq_nil_of_length_eq_zero (by omega)
      have hc0 : chars nm ≠ [] := by
        rw [chars_step nm hne]; simp
      exact hc0 ((hP.empty he0).trans hb0)
    have hs := sep_counted pt k hpne
    have := undis_puny pt.length (Lib.decDigits pt.length) (if startsDU pt then [95] else []) (pt ++ k) nm (by simpa using hx) (dec_ne _) (dec_is10 _) (dec_f10 _) (fun j hj hj2 => by rw [List.getElem_append_left hj2]; exact hpid _ (List.getElem_mem hj2)) (by simp) (by omega) hs (by simp [hpne])
    rw [e, counted']
    simpa using this
end Go.Proofs.YtidokamjbglkbaaGreatDoor

/- writeLifetime; a generic argument that is a lifetime. -/
namespace Go.Proofs.YtidokamjbglkbaaGreatDoor
open Go.RowKit

set_option maxHeartbeats 2000000 in
set_option maxRecDepth 100000 in
/-- The lifetime with the index i is told where lb are bound (25 at most, where it is not told silently). -/
theorem At.life {B b : Nat} {r0 : RS} {w0 w : World} {k txt : List UInt8} {G : Nat → Prop} (i : Nat) (h : At B b r0 w0 k txt G w) (hi : i ≤ r0.life) (hb : r0.life ≤ 1000000000) (hs : r0.skip = false → r0.life ≤ 25)
    (hl : r0.skip = false → r0.out.length + (txt.length + 2) ≤ 1000000000) :
    Calls Tryz.prog 106 #[.pointer (some ⟨b, 0, none⟩), .int .i64 i] w fun e w' => e = .returned (.tuple #[]) ∧ At B b r0 w0 k (txt ++ lifeText r0.life i) NS w' := by
  have c6 := h.c6
  have HL := Lib.hid hl
  have H := Lib.hid h
  by_cases hi0 : i = 0
  · subst hi0
    clear h hs hl hi
    go_enter Tryz.func106, Tryz.ntmps106
    go_wp2_with fail
    refine (H.out.wb 39 39 rfl (fun e => by have := HL.out e; omega)).mono ?_
    rintro e w1 ⟨rfl, h1⟩
    go_wp2_with fail
    refine (h1.wb 95 95 rfl (fun e => by have := HL.out e; simp; omega)).mono ?_
    rintro e w2 ⟨rfl, h2⟩
    go_wp2_with fail
    refine bodyPost_ret (results_none rfl _ _ _) rfl ?_
    exact ⟨rfl, (h2.mono fun l e => by rw [e]; decide).to rfl (by simp [lifeText])⟩
  · have hi' : ((i : Int) == 0) = false := by rw [beq_eq_false_iff_ne]; omega
    obtain ⟨lb, hlb⟩ : ∃ lb, lb = r0.life := ⟨_, rfl⟩
    rw [← hlb] at c6 hi hb hs ⊢
    have HB := Lib.hid hlb
    clear hlb
    by_cases hd : lb - i < 26
    · have hd' : (lb : Int) - i < 26 := by omega
      have hd0 : ¬ (lb : Int) - i < 0 := by omega
      have T : Hid (At B b r0 w0 k (txt ++ [39] ++ [UInt8.ofNat (97 + (lb - i))]) NS w → True) := Lib.hid fun _ => trivial
      have hc : ((UInt8.ofNat (97 + (lb - i))).toNat : Int) = 97 + ((lb : Int) - i) := by rw [UInt8.toNat_ofNat_of_lt' (by show _ < 256; omega)]; omega
      have hmod : ((lb : Int) - i) % 256 = (lb : Int) - i := by omega
      have hw1 : IntKind.u8.wrap ((lb : Int) - i) = (lb : Int) - i := by simp [IntKind.wrap, IntKind.bits, IntKind.signed]; omega
      have hw2 : IntKind.u8.wrap (97 + ((lb : Int) - i)) = 97 + ((lb : Int) - i) := by simp [IntKind.wrap, IntKind.bits, IntKind.signed]; omega
      have HC := Lib.hid hc
      have HI := Lib.hid hi0
      clear h hs hl hc T hi0
      go_enter Tryz.func106, Tryz.ntmps106
      go_wp2_with fail
      refine (H.out.wb 39 39 rfl (fun e => by have := HL.out e; omega)).mono ?_
      rintro e w1 ⟨rfl, h1⟩
      clear c6
      have c6 := h1.c6
      rw [← HB.out] at c6
      go_wp2_with fail
      refine (h1.wb (UInt8.ofNat (97 + (lb - i))) _ HC.out (fun e => by have := HL.out e; simp; omega)).mono ?_
      rintro e w2 ⟨rfl, h2⟩
      go_wp2_with fail
      go_end0
      exact ⟨rfl, (h2.mono fun l e => by rw [e]; have := HC.out; omega).to rfl (by simp [lifeText, HI.out])⟩
    · have hsk : r0.skip = true := by
        cases h0 : r0.skip with
        | true => rfl
        | false => have := hs h0; omega
      have hd' : ¬ (lb : Int) - i < 26 := by omega
      have hd0 : ¬ (lb : Int) - i < 0 := by omega
      have HSK := Lib.hid hsk
      have HI := Lib.hid hi0
      clear h hs hl hi0 hsk
      go_enter Tryz.func106, Tryz.ntmps106
      go_wp2_with fail
      refine (H.out.wb 39 39 rfl (fun e => by rw [HSK.out] at e; cases e)).mono ?_
      rintro e w1 ⟨rfl, h1⟩
      clear c6
      have c6 := h1.c6
      rw [← HB.out] at c6
      go_wp2_with fail
      refine (h1.wb 122 122 rfl (fun e => by rw [HSK.out] at e; cases e)).mono ?_
      rintro e w2 ⟨rfl, h2⟩
      have c5 := h2.c5
      rw [HSK.out] at c5
      go_wp2_with fail
      go_end0
      exact ⟨rfl, h2.quiet HSK.out⟩

set_option maxHeartbeats 4000000 in
set_option maxRecDepth 100000 in
theorem genericArg_L (lb : Nat) (sk : Bool) (n : Nat) (k txt : List UInt8) (hn : n ≤ lb) (hb : lb ≤ 1000000000) (hs : sk = false → lb ≤ 25) (htxt : txt = lifeText lb n) : Says 111 #[] lb sk (76 :: (b62 n ++ k)) k txt T0 := by
  intro B b r w hr hsk hlb hi ho
  have c1 : w.cell? ⟨b, 1, none⟩ = some (.string (bs r.str)) := by obtain ⟨ad, buf, h'⟩ := hr; exact h'.c1
  rw [hi] at c1
  have hln := hr.len
  rw [hi] at hln
  simp only [List.length_cons, List.length_append] at hln
  have HI := Lib.hid hi
  have HSK := Lib.hid hsk
  have HLB := Lib.hid hlb
  have HT := Lib.hid htxt
  have HO := Lib.hid ho
  have HS := Lib.hid hs
  have A := At.start hr
  rw [hi] at A
  clear hi hsk hlb ho htxt hs
  go_enter Tryz.func111, Tryz.ntmps111
  go_wp2_with fail
  refine (A.adv 76).mono ?_
  rintro e w1 ⟨rfl, A'⟩
  clear c1; clear A; have A := A'; clear A'
  go_wp2_with fail
  refine (A.base62 n k (by omega)).mono ?_
  rintro e w2 ⟨rfl, A'⟩
  clear A; have A := A'; clear A'
  go_wp2_with fail
  refine (A.life n (by rw [HLB.out]; exact hn) (by rw [HLB.out]; exact hb) (fun e => by rw [HLB.out]; exact HS.out (by rw [← HSK.out]; exact e)) (fun e => by have := HO.out e; rw [HT.out, lifeText_len] at this; simpa using this)).mono ?_
  rintro e w3 ⟨rfl, A'⟩
  clear A
  go_wp2
  go_end0
  exact (A'.mono fun _ _ => trivial).to rfl (by rw [HT.out, HLB.out]; rfl) |>.post HI.out (Kept.refl B w)
end Go.Proofs.YtidokamjbglkbaaGreatDoor

/- binder: lifetimes are bound. -/
namespace Go.Proofs.YtidokamjbglkbaaGreatDoor
open Go.RowKit

/-- A reader where lb lifetimes are bound. -/
def RS.lives (r : RS) (lb : Nat) : RS := { r with life := lb }
@[simp] theorem RS.lives_skip (r : RS) (n : Nat) : (r.lives n).skip = r.skip := rfl
@[simp] theorem RS.lives_life (r : RS) (n : Nat) : (r.lives n).life = n := rfl
@[simp] theorem RS.lives_str (r : RS) (n : Nat) : (r.lives n).str = r.str := rfl
@[simp] theorem RS.lives_out (r : RS) (n : Nat) : (r.lives n).out = r.out := rfl
@[simp] theorem RS.lives_off (r : RS) (n : Nat) : (r.lives n).off = r.off := rfl
@[simp] theorem RS.lives_lives (r : RS) (n m : Nat) : (r.lives n).lives m = r.lives m := rfl
theorem RS.lives_to (r : RS) (n : Nat) (k : List UInt8) (o l : Nat) (t : List UInt8) : (r.to k o t l).lives n = (r.lives n).to k o t l := by
  cases r with | mk a b c d e f g => cases e <;> rfl
theorem RS.lives_self (r : RS) : r.lives r.life = r := rfl

/-- A part of the reader behind which other lifetimes are bound. -/
def SaysL (f : FuncId) (xs : Array Value) (lb lb' : Nat) (sk : Bool) (inp k txt : List UInt8) (G : Nat → Prop) : Prop :=
  ∀ (B b : Nat) (r : RS) (w : World), Rst B b r w → r.skip = sk → r.life = lb → r.str = inp → (r.skip = false → r.out.length + txt.length ≤ 1000000000) →
    Calls Tryz.prog f (#[.pointer (some ⟨b, 0, none⟩)] ++ xs) w fun e w' => e = .returned (.tuple #[]) ∧ At B b (r.lives lb') w k txt G w'

section
variable {B b : Nat} {r0 : RS} {w0 w : World} {k txt : List UInt8} {G : Nat → Prop}
theorem At.setLife (n : Nat) {i : Int} (hi : i = n) (h : At B b r0 w0 k txt G w) : At B b (r0.lives n) w0 k txt G (w.setCell ⟨b, 6, none⟩ (.int .i64 i)) := by
  obtain ⟨o, l, h1, h2, ⟨ad, buf, h3⟩, h4⟩ := h
  refine ⟨o, l, h1, h2, ⟨ad, buf, ?_⟩, h3.keeps h4 6 _⟩
  have := h3.setLife n hi
  rw [← RS.lives_to]
  exact this
theorem At.saysL {f : FuncId} {xs : Array Value} {lb lb' : Nat} {sk : Bool} {k' t : List UInt8} {G' : Nat → Prop} (hf : SaysL f xs lb lb' sk k k' t G') (h : At B b r0 w0 k txt G w) (hs : r0.skip = sk) (hb : r0.life = lb)
    (hl : r0.skip = false → r0.out.length + (txt.length + t.length) ≤ 1000000000) :
    Calls Tryz.prog f (#[.pointer (some ⟨b, 0, none⟩)] ++ xs) w fun e w' => e = .returned (.tuple #[]) ∧ At B b (r0.lives lb') w0 k' (txt ++ t) G' w' := by
  obtain ⟨o, l, h1, h2, h3, h4⟩ := h
  have hb2 := RS.to_len r0 k o l txt
  refine (hf B b _ w h3 hs hb rfl (fun e => by have := hl e; omega)).mono ?_
  rintro e w' ⟨rfl, o', l', ho, hG, hr, hk⟩
  rw [RS.lives_to, RS.to_to] at hr
  exact ⟨rfl, o', l', by simp at ho ⊢; omega, hG, hr, h4.trans hk⟩
/-- The lifetimes are bound as they were. -/
theorem At.back (n : Nat) (h : At B b (r0.lives n) w0 k txt G w) (hn : n = r0.life) : At B b r0 w0 k txt G w := by
  subst hn; exact h
end
theorem joined_snoc (sep : List UInt8) (l : List (List UInt8)) (x : List UInt8) : joined sep (l ++ [x]) = if l = [] then x else joined sep l ++ (sep ++ x) := by
  cases l with
  | nil => simp [joined, tailText]
  | cons a l => simp [joined, tailText]
theorem forNames_succ (lb j : Nat) : forNames lb (j + 1) = forNames lb j ++ [lifeText (lb + j + 1) 1] := by simp [forNames, List.range_succ]
theorem forNames_len (lb j : Nat) : (forNames lb j).length = j := by simp [forNames]
theorem forText_len (lb j : Nat) : (joined [44, 32] (forNames lb j)).length ≤ 4 * j := by
  induction j with
  | zero => simp [forNames, joined]
  | succ j ih =>
    rw [forNames_succ, joined_snoc]
    split
    · simp [lifeText_len]; omega
    · simp [lifeText_len]; omega
theorem forText_mono (lb n j : Nat) (h : j ≤ n) : (joined [44, 32] (forNames lb j)).length ≤ (joined [44, 32] (forNames lb n)).length := by
  induction n with
  | zero =>
    obtain rfl : j = 0 := by omega
    exact Nat.le_refl _
  | succ n ih =>
    by_cases hj : j = n + 1
    · subst hj; exact Nat.le_refl _
    · refine Nat.le_trans (ih (by omega)) ?_
      rw [forNames_succ, joined_snoc]
      split
      · rename_i h0; rw [h0]; simp [joined]
      · simp

theorem binder_none (lb : Nat) (sk : Bool) (c : UInt8) (k : List UInt8) (hc : ((c.toNat : Int) != 71) = true) : SaysL 120 #[] lb lb sk (c :: k) (c :: k) [] (fun _ => True) := by
  intro B b r w hr hsk hlb hi ho
  have c1 : w.cell? ⟨b, 1, none⟩ = some (.string (bs r.str)) := by obtain ⟨ad, buf, h'⟩ := hr; exact h'.c1
  rw [hi] at c1
  have hln := hr.len
  rw [hi] at hln
  simp only [List.length_cons] at hln
  have A := Lib.hid (At.start hr)
  have HI := Lib.hid hi
  have HLB := Lib.hid hlb
  clear hi hsk hlb ho hr
  go_enter Tryz.func120, Tryz.ntmps120
  go_wp2_with fail
  refine bodyPost_ret (results_none rfl _ _ _) rfl ?_
  have := A.out.mono (G' := fun _ => True) fun _ _ => trivial
  rw [HI.out] at this
  exact ⟨rfl, by rw [← HLB.out, RS.lives_self]; exact this⟩

set_option maxHeartbeats 4000000 in
set_option maxRecDepth 100000 in
theorem binder_some (lb m n : Nat) (hm : n = m + 1) (sk : Bool) (k txt : List UInt8) (hroom : lb + n < k.length) (hs : sk = false → lb + n ≤ 25) (htxt : txt = binderText lb n) : SaysL 120 #[] lb (lb + n) sk (71 :: (b62 m ++ k)) k txt (fun _ => True) := by
  intro B b r w hr hsk hlb hi ho
  have hn0 : n ≠ 0 := by omega
  have hb := b62_len m
  have c1 : w.cell? ⟨b, 1, none⟩ = some (.string (bs r.str)) := by obtain ⟨ad, buf, h'⟩ := hr; exact h'.c1
  rw [hi] at c1
  have hln := hr.len
  rw [hi] at hln
  simp only [List.length_cons, List.length_append] at hln
  have A := At.start hr
  rw [hi] at A
  have tl : txt.length = (joined [44, 32] (forNames lb n)).length + 6 := by rw [htxt, binderText, if_neg hn0]; simp
  have HI := Lib.hid hi
  have HLB := Lib.hid hlb
  have HSK := Lib.hid hsk
  have HO : Hid (r.skip = false → r.out.length + ((joined [44, 32] (forNames lb n)).length + 6) ≤ 1000000000) := Lib.hid fun e => by have := ho e; rw [tl] at this; exact this
  have HT := Lib.hid htxt
  have HS := Lib.hid hs
  have HR := Lib.hid hroom
  have hn1 : (m : Int) + 1 = n := by omega
  have hnk' : ¬ ((k.length : Int) - lb ≤ (m : Int) + 1) := by omega
  have hM := Lib.hid hm
  have hmm : m ≤ 1000000000 := by omega
  have hkl : k.length ≤ 1000000000 := by omega
  have HN0 := Lib.hid hn0
  clear hi hsk hlb ho hr htxt hs hroom tl hm hn0 hb
  go_enter Tryz.func120, Tryz.ntmps120
  go_wp2_with fail
  refine (A.adv 71).mono ?_
  rintro e w1 ⟨rfl, A'⟩
  clear c1; clear A; have A := A'; clear A'
  go_wp2_with fail
  refine (A.base62 m k (by omega)).mono ?_
  rintro e w2 ⟨rfl, A'⟩
  clear A; have A := A'; clear A'
  have Ac1 := A.c1
  have Ac6 := A.c6
  rw [HLB.out] at Ac6
  have HN1 := Lib.hid hn1
  clear hn1
  go_wp2_with fail
  go_quiet (fail)
  have A := A.drewN nq
  go_wp2_with fail
  refine (A.ws [102, 111, 114, 60] (by simp) (fun hs0 => by have := HO.out hs0; simp; omega)).mono ?_
  rintro e w3 ⟨rfl, A'⟩
  clear A Ac1 Ac6; have A := A'; clear A'
  have AL : At B b (r.lives (lb + 0)) w k ([] ++ [102, 111, 114, 60] ++ joined [44, 32] (forNames lb 0)) (fun _ => True) w3 := by
    have : r.lives (lb + 0) = r := by rw [Nat.add_zero, ← HLB.out, RS.lives_self]
    rw [this]
    exact (A.mono fun _ _ => trivial).to rfl (by simp [forNames, joined])
  clear A
  go_wp2_with fail
  go_loopg [3] (n + 1) (fun g i wr => ∃ j : Nat, j ≤ n ∧ g = n - j + 1 ∧ i = .int .i64 j ∧ At B b (r.lives (lb + j)) w k ([] ++ [102, 111, 114, 60] ++ joined [44, 32] (forNames lb j)) (fun _ => True) wr)
  case atStart => exact ⟨0, Nat.zero_le _, by omega, rfl, AL⟩
  case round =>
    obtain ⟨j, hj, rfl, rfl, A⟩ := hrel
    clear AL
    by_cases hlt : j < n
    · have hjm : (j : Int) < (m : Int) + 1 := by have := HN1.out; omega
      have hmj := forText_mono lb n (j + 1) (by omega)
      rw [forNames_succ, joined_snoc] at hmj
      have Ac6 := A.c6
      have Af6 := A.fz 6
      simp only [RS.lives_life] at Ac6
      have hst : IntKind.i64.wrap ((lb + j : Nat) + 1) = ((lb + j + 1 : Nat) : Int) := by simp [IntKind.wrap, IntKind.bits, IntKind.signed]; omega
      have FIN : Hid (∀ (w5 : World) (t : List UInt8), t = [] ++ [102, 111, 114, 60] ++ joined [44, 32] (forNames lb (j + 1)) → At B b (r.lives (lb + (j + 1))) w k t NS w5 →
          ∃ j' : Nat, j' ≤ n ∧ n - (j + 1) + 1 = n - j' + 1 ∧ Value.int .i64 ((j : Int) + 1) = .int .i64 (j' : Int) ∧ At B b (r.lives (lb + j')) w k ([] ++ [102, 111, 114, 60] ++ joined [44, 32] (forNames lb j')) (fun _ => True) w5) :=
        Lib.hid fun w5 t ht h => ⟨j + 1, by omega, rfl, by simp, by rw [← ht]; exact h.mono fun _ _ => trivial⟩
      by_cases hj0 : j = 0
      · subst hj0
        have e0 : (forNames lb 0) = [] := rfl
        rw [if_pos e0] at hmj
        have HM := Lib.hid hmj
        clear hmj hst
        go_wp2_with fail
        refine ((A.setLife (lb + 0 + 1) (by simp)).life 1 (by simp) (by simp; omega) (fun e => by simp; have := HS.out (by rw [← HSK.out]; exact e); omega) (fun hs0 => by have a := HO.out hs0; have b := HM.out; simp [joined, forNames, lifeText_len] at a b ⊢; omega)).mono ?_
        rintro e w5 ⟨rfl, A5⟩
        go_wp2_with fail
        go_roundg (n - (0 + 1) + 1)
        case measure => omega
        case rel => exact FIN.out _ _ (by have e1 : forNames lb (0 + 1) = [lifeText (lb + 0 + 1) 1] := rfl; rw [e1]; simp [forNames, joined, tailText]) A5
      · have e0 : forNames lb j ≠ [] := by intro e; have := forNames_len lb j; rw [e] at this; simp at this; omega
        rw [if_neg e0] at hmj
        have hj1 : (0 : Int) < j := by omega
        have HM := Lib.hid hmj
        have HE := Lib.hid e0
        clear hmj hst e0
        go_wp2_with fail
        refine (A.ws [44, 32] (by simp) (fun hs0 => by have a := HO.out hs0; have b := HM.out; simp [lifeText_len] at a b ⊢; omega)).mono ?_
        rintro e w4 ⟨rfl, A4⟩
        clear Ac6 Af6 A
        have Ac6 := A4.c6
        have Af6 := A4.fz 6
        simp only [RS.lives_life] at Ac6
        go_wp2_with fail
        refine ((A4.setLife (lb + j + 1) (by simp)).life 1 (by simp) (by simp; omega) (fun e => by simp; have := HS.out (by rw [← HSK.out]; exact e); omega) (fun hs0 => by have a := HO.out hs0; have b := HM.out; simp [lifeText_len] at a b ⊢; omega)).mono ?_
        rintro e w5 ⟨rfl, A5⟩
        go_wp2_with fail
        go_roundg (n - (j + 1) + 1)
        case measure => omega
        case rel => exact FIN.out _ _ (by rw [forNames_succ, joined_snoc, if_neg HE.out]; simp) A5
    · obtain rfl : j = n := by omega
      have hjm : ¬ (j : Int) < (m : Int) + 1 := by have := HN1.out; omega
      go_wp2_with fail
      refine (A.ws [62, 32] (by simp) (fun hs0 => by have := HO.out hs0; simp at this ⊢; omega)).mono ?_
      rintro e w5 ⟨rfl, A5⟩
      go_wp2_with fail
      go_end0
      refine ⟨rfl, (A5.mono fun _ _ => trivial).to rfl ?_⟩
      rw [HT.out, binderText, if_neg HN0.out]; simp
end Go.Proofs.YtidokamjbglkbaaGreatDoor

