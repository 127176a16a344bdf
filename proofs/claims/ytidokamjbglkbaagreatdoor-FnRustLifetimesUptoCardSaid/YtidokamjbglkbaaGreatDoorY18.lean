/- path at closures, at shims. -/
import Derived.Test.YtidokamjbglkbaaGreatDoorY17
import Derived.Test.YtidokamjbglkbaaGreatDoorY02
import Derived.Test.YtidokamjbglkbaaGreatDoorY14
import Derived.StillTailTactics
import Derived.Deep.DeepCutAuto
import Derived.Deep.CutBlock
import Derived.Defers
import Derived.Recover
import Derived.Lib.LaidU8
import Derived.Maps.StringElems
import Derived.Maps.OwnSet
import Derived.Maps.Keyed
namespace Go.Proofs.YtidokamjbglkbaaGreatDoor
open Go.RowKit

theorem dec_len20 (n : Nat) (h : n ≤ 4611686018427387904) : (Lib.decDigits n).length ≤ 20 := by
  have : ∀ (k n : Nat), n < 10 ^ (k + 1) → (Lib.decDigits n).length ≤ k + 1 := by
    intro k
    induction k with
    | zero => intro n h; rw [Lib.decDigits, dif_pos (by simpa using h)]; simp
    | succ k ih =>
      intro n h
      rw [Lib.decDigits]
      split
      · simp
      · have := ih (n / 10) (by rw [Nat.pow_succ] at h; omega)
        simp; omega
  have := this 18 n (by omega)
  omega
theorem itoa_nat (n : Nat) : Lib.itoa (n : Int) = Lib.decDigits n := by
  unfold Lib.itoa
  rw [if_neg (by omega)]; simp
theorem fmtInt_nat (n : Nat) (hn : n ≤ 4611686018427387904) (w : World) (htab : Lib.TabIs Tryz.prog w "internal/strconv.uint64pow10" .u64 Lib.pow10Tab) :
    Calls Tryz.prog 87 #[.int .i64 n, .int .i64 10] w fun e w' => e = .returned (.string (bs (Lib.decDigits n))) ∧ ∃ k os, w' = Go.Sort.grow (w.drewN k) os := by
  have := Tryz.strconv_FormatInt_10 (n : Int) (by omega) (by omega) w htab
  rw [itoa_nat] at this
  exact this
theorem At.grow' {B b : Nat} {r0 : RS} {w0 w : World} {k txt : List UInt8} {G : Nat → Prop} (h : At B b r0 w0 k txt G w) {w' : World} (h' : ∃ n os, w' = Go.Sort.grow (w.drewN n) os) : At B b r0 w0 k txt G w' := by
  obtain ⟨n, os, rfl⟩ := h'; exact h.grow n os

set_option maxHeartbeats 4000000 in
set_option maxRecDepth 100000 in
theorem path_N_C0 (sep : Bool) (lb : Nat) (sk : Bool) (inp k1 k t1 name txt : List UInt8) (n : Nat) (G1 : Nat → Prop) (h1 : Says 74 #[.bool sep] lb sk inp k1 t1 G1) (hn : n ≤ 4611686018427387904) (h2 : Names k1 k n name) (hname : name = []) (htxt : txt = t1 ++ ([58, 58, 123] ++ ([99, 108, 111, 115, 117, 114, 101] ++ (((35 :: Lib.decDigits n) ++ [125]))))) :
    Says 74 #[.bool sep] lb sk (78 :: 67 :: inp) k txt NS := by
  subst hname
  intro B b r w hr hsk hlb hi ho
  have c1 : w.cell? ⟨b, 1, none⟩ = some (.string (bs r.str)) := by obtain ⟨ad, buf, h'⟩ := hr; exact h'.c1
  rw [hi] at c1
  have hlt := hr.lt
  have hln := hr.len
  rw [hi] at hln
  simp only [List.length_cons] at hln
  have ho' := ho
  rw [htxt] at ho'
  have HO := Lib.hid ho'
  clear ho ho'
  have HI := Lib.hid hi
  have HSK := Lib.hid hsk
  have HLB := Lib.hid hlb
  have HT := Lib.hid htxt
  clear hi hsk hlb htxt
  have A := At.start ((hr.alloc (.cells #[.pointer (some ⟨b, 0, none⟩)] 82)).alloc (.cells #[.bool sep] 4))
  obtain ⟨B0, B1⟩ := boxes2 w 82 4 (.pointer (some ⟨b, 0, none⟩)) (.bool sep)
  rw [HI.out] at A
  go_enter Tryz.func74, Tryz.ntmps74
  go_wp2_with fail
  refine (A.adv 78).mono ?_
  rintro e w1 ⟨rfl, A'⟩
  clear c1 hlt
  clear A; have A := A'; clear A'
  have cB0 := A.box B0 (by decide)
  have Ac1 := A.c1
  have Aln := A.len.2
  try simp only [List.length_cons] at Aln
  try simp only [List.cons_append, List.nil_append] at Ac1
  go_wp2_with fail
  refine (A.adv 67).mono ?_
  rintro e w2 ⟨rfl, A'⟩
  clear cB0 Ac1 Aln
  clear A; have A := A'; clear A'
  have cB0 := A.box B0 (by decide)
  have cB1 := A.box B1 (by decide)
  go_wp2_with fail
  refine (A.says h1 HSK.out HLB.out (fun hs0 => by have ho' := HO.out hs0; simp at ho' ⊢; omega)).mono ?_
  rintro e w3 ⟨rfl, A'⟩
  clear cB0 cB1
  clear A; have A := A'; clear A'
  have cB0 := A.box B0 (by decide)
  go_wp2_with fail
  refine (h2 B b r _ _ _ _ A).mono ?_
  rintro e w4 ⟨rfl, A'⟩
  clear cB0
  clear A; have A := A'; clear A'
  have cB0 := A.box B0 (by decide)
  go_wp2_with fail
  refine (A.ws [58, 58, 123] (by simp) (fun hs0 => by have ho' := HO.out hs0; simp at ho' ⊢; omega)).mono ?_
  rintro e w5 ⟨rfl, A'⟩
  clear cB0
  clear A; have A := A'; clear A'
  have cB0 := A.box B0 (by decide)
  go_wp2_with fail
  refine (A.ws [99, 108, 111, 115, 117, 114, 101] (by simp) (fun hs0 => by have ho' := HO.out hs0; simp at ho' ⊢; omega)).mono ?_
  rintro e w6 ⟨rfl, A'⟩
  clear cB0
  clear A; have A := A'; clear A'
  have cB0 := A.box B0 (by decide)
  have Ac5 := A.c5
  cases hs : r.skip with
  | true =>
    rw [hs] at Ac5
    have HS := Lib.hid hs
    clear hs
    go_wp2_with fail
    go_end0
    exact (A.quiet HS.out).post HI.out (((Kept.refl B w).alloc _).alloc _)
  | false =>
    rw [hs] at Ac5
    have HS := Lib.hid hs
    clear hs
    have hb := HO.out HS.out
    have hol : r.out.length + (([] ++ t1 ++ [58, 58, 123] ++ [99, 108, 111, 115, 117, 114, 101]).length + (bs (35 :: (Lib.decDigits n ++ [125]))).size) ≤ 1000000000 := by simp at hb ⊢; omega
    have HOL := Lib.hid hol
    have HN := Lib.hid hn
    have hdl := dec_len20 n hn
    have e1 : (⟨#[35]⟩ : ByteArray) ++ bs (Lib.decDigits n) = bs (35 :: Lib.decDigits n) := by rw [show (⟨#[35]⟩ : ByteArray) = bs [35] from rfl, bs_append]; rfl
    have e2 : bs (35 :: Lib.decDigits n) ++ (⟨#[125]⟩ : ByteArray) = bs (35 :: (Lib.decDigits n ++ [125])) := by rw [show (⟨#[125]⟩ : ByteArray) = bs [125] from rfl, bs_append]; rfl
    have g1 : ¬ 9223372036854775807 < 1 + (Lib.decDigits n).length := by omega
    have g2 : ¬ 9223372036854775807 < (Lib.decDigits n).length + 1 + 1 := by omega
    have FI := Lib.hid (fun (w1 : World) (a : At B b r ((w.alloc (.cells #[.pointer (some ⟨b, 0, none⟩)] 82)).alloc (.cells #[.bool sep] 4)) k ([] ++ t1 ++ [58, 58, 123] ++ [99, 108, 111, 115, 117, 114, 101]) T0 w1) => (fmtInt_nat n hn w1 a.tab.pow10).mono (R' := fun e w' => e = .returned (.string (bs (Lib.decDigits n))) ∧ At B b r ((w.alloc (.cells #[.pointer (some ⟨b, 0, none⟩)] 82)).alloc (.cells #[.bool sep] 4)) k ([] ++ t1 ++ [58, 58, 123] ++ [99, 108, 111, 115, 117, 114, 101]) T0 w') fun _ _ h => ⟨h.1, a.grow' h.2⟩)
    have WS := Lib.hid (fun (w1 : World) (a : At B b r ((w.alloc (.cells #[.pointer (some ⟨b, 0, none⟩)] 82)).alloc (.cells #[.bool sep] 4)) k ([] ++ t1 ++ [58, 58, 123] ++ [99, 108, 111, 115, 117, 114, 101]) T0 w1) => a.bws (35 :: (Lib.decDigits n ++ [125])) HS.out (HOL.out))
    have A0 := A.mono (G' := T0) fun _ _ => trivial
    clear hb hol hn A
    go_upto_region 50 with fail
    go_cut [] (fun wx => At B b r ((w.alloc (.cells #[.pointer (some ⟨b, 0, none⟩)] 82)).alloc (.cells #[.bool sep] 4)) k ([] ++ t1 ++ [58, 58, 123] ++ [99, 108, 111, 115, 117, 114, 101] ++ (35 :: (Lib.decDigits n ++ [125]))) T0 wx)
    case first =>
      go_region_with (first
        | (go_at_call 87; refine (FI.out _ ?_).mono ?_; (first | assumption | exact At.drewN (by assumption) 1); rintro e wf ⟨rfl, Af⟩; have cBf := At.box Af B0 (by decide))
        | (go_at_call 76; refine (WS.out _ ?_).mono ?_; (first | assumption | exact At.drewN (by assumption) 1); rintro e wg ⟨rfl, Ag⟩))
      all_goals go_wp2_with fail
      all_goals go_meet
      all_goals assumption
    case rest =>
    have A5 := hcut
    have cB0 := A5.box B0 (by decide)
    have c7 := A5.c7
    have g7 := A5.fz 7
    obtain ⟨v7, c7⟩ := c7
    go_wp2_with fail
    go_end0
    exact ((A5.setLast 125).mono (fun l e => by rw [e]; decide)).to rfl (by rw [HT.out]; simp) |>.post HI.out (((Kept.refl B w).alloc _).alloc _)

set_option maxHeartbeats 4000000 in
set_option maxRecDepth 100000 in
theorem path_N_C1 (sep : Bool) (lb : Nat) (sk : Bool) (inp k1 k t1 name txt : List UInt8) (n : Nat) (G1 : Nat → Prop) (h1 : Says 74 #[.bool sep] lb sk inp k1 t1 G1) (hn : n ≤ 4611686018427387904) (h2 : Names k1 k n name) (hne : name ≠ []) (htxt : txt = t1 ++ ([58, 58, 123] ++ ([99, 108, 111, 115, 117, 114, 101] ++ ((58 :: name) ++ ((35 :: Lib.decDigits n) ++ [125]))))) :
    Says 74 #[.bool sep] lb sk (78 :: 67 :: inp) k txt NS := by
  have hnl : 0 < name.length := List.length_pos_iff.2 hne
  intro B b r w hr hsk hlb hi ho
  have c1 : w.cell? ⟨b, 1, none⟩ = some (.string (bs r.str)) := by obtain ⟨ad, buf, h'⟩ := hr; exact h'.c1
  rw [hi] at c1
  have hlt := hr.lt
  have hln := hr.len
  rw [hi] at hln
  simp only [List.length_cons] at hln
  have ho' := ho
  rw [htxt] at ho'
  have HO := Lib.hid ho'
  clear ho ho'
  have HI := Lib.hid hi
  have HSK := Lib.hid hsk
  have HLB := Lib.hid hlb
  have HT := Lib.hid htxt
  clear hi hsk hlb htxt
  have A := At.start ((hr.alloc (.cells #[.pointer (some ⟨b, 0, none⟩)] 82)).alloc (.cells #[.bool sep] 4))
  obtain ⟨B0, B1⟩ := boxes2 w 82 4 (.pointer (some ⟨b, 0, none⟩)) (.bool sep)
  rw [HI.out] at A
  go_enter Tryz.func74, Tryz.ntmps74
  go_wp2_with fail
  refine (A.adv 78).mono ?_
  rintro e w1 ⟨rfl, A'⟩
  clear c1 hlt
  clear A; have A := A'; clear A'
  have cB0 := A.box B0 (by decide)
  have Ac1 := A.c1
  have Aln := A.len.2
  try simp only [List.length_cons] at Aln
  try simp only [List.cons_append, List.nil_append] at Ac1
  go_wp2_with fail
  refine (A.adv 67).mono ?_
  rintro e w2 ⟨rfl, A'⟩
  clear cB0 Ac1 Aln
  clear A; have A := A'; clear A'
  have cB0 := A.box B0 (by decide)
  have cB1 := A.box B1 (by decide)
  go_wp2_with fail
  refine (A.says h1 HSK.out HLB.out (fun hs0 => by have ho' := HO.out hs0; simp at ho' ⊢; omega)).mono ?_
  rintro e w3 ⟨rfl, A'⟩
  clear cB0 cB1
  clear A; have A := A'; clear A'
  have cB0 := A.box B0 (by decide)
  go_wp2_with fail
  refine (h2 B b r _ _ _ _ A).mono ?_
  rintro e w4 ⟨rfl, A'⟩
  clear cB0
  clear A; have A := A'; clear A'
  have cB0 := A.box B0 (by decide)
  go_wp2_with fail
  refine (A.ws [58, 58, 123] (by simp) (fun hs0 => by have ho' := HO.out hs0; simp at ho' ⊢; omega)).mono ?_
  rintro e w5 ⟨rfl, A'⟩
  clear cB0
  clear A; have A := A'; clear A'
  have cB0 := A.box B0 (by decide)
  go_wp2_with fail
  refine (A.ws [99, 108, 111, 115, 117, 114, 101] (by simp) (fun hs0 => by have ho' := HO.out hs0; simp at ho' ⊢; omega)).mono ?_
  rintro e w6 ⟨rfl, A'⟩
  clear cB0
  clear A; have A := A'; clear A'
  have cB0 := A.box B0 (by decide)
  go_wp2_with fail
  refine (A.wb 58 58 rfl (fun hs0 => by have ho' := HO.out hs0; simp at ho' ⊢; omega)).mono ?_
  rintro e w7 ⟨rfl, A'⟩
  clear cB0
  clear A; have A := A'; clear A'
  have cB0 := A.box B0 (by decide)
  go_wp2_with fail
  refine (A.ws name hne (fun hs0 => by have ho' := HO.out hs0; simp at ho' ⊢; omega)).mono ?_
  rintro e w8 ⟨rfl, A'⟩
  clear cB0
  clear A; have A := A'; clear A'
  have cB0 := A.box B0 (by decide)
  have Ac5 := A.c5
  cases hs : r.skip with
  | true =>
    rw [hs] at Ac5
    have HS := Lib.hid hs
    clear hs
    go_wp2_with fail
    go_end0
    exact (A.quiet HS.out).post HI.out (((Kept.refl B w).alloc _).alloc _)
  | false =>
    rw [hs] at Ac5
    have HS := Lib.hid hs
    clear hs
    have hb := HO.out HS.out
    have hol : r.out.length + (([] ++ t1 ++ [58, 58, 123] ++ [99, 108, 111, 115, 117, 114, 101] ++ [58] ++ name).length + (bs (35 :: (Lib.decDigits n ++ [125]))).size) ≤ 1000000000 := by simp at hb ⊢; omega
    have HOL := Lib.hid hol
    have HN := Lib.hid hn
    have hdl := dec_len20 n hn
    have e1 : (⟨#[35]⟩ : ByteArray) ++ bs (Lib.decDigits n) = bs (35 :: Lib.decDigits n) := by rw [show (⟨#[35]⟩ : ByteArray) = bs [35] from rfl, bs_append]; rfl
    have e2 : bs (35 :: Lib.decDigits n) ++ (⟨#[125]⟩ : ByteArray) = bs (35 :: (Lib.decDigits n ++ [125])) := by rw [show (⟨#[125]⟩ : ByteArray) = bs [125] from rfl, bs_append]; rfl
    have g1 : ¬ 9223372036854775807 < 1 + (Lib.decDigits n).length := by omega
    have g2 : ¬ 9223372036854775807 < (Lib.decDigits n).length + 1 + 1 := by omega
    have FI := Lib.hid (fun (w1 : World) (a : At B b r ((w.alloc (.cells #[.pointer (some ⟨b, 0, none⟩)] 82)).alloc (.cells #[.bool sep] 4)) k ([] ++ t1 ++ [58, 58, 123] ++ [99, 108, 111, 115, 117, 114, 101] ++ [58] ++ name) T0 w1) => (fmtInt_nat n hn w1 a.tab.pow10).mono (R' := fun e w' => e = .returned (.string (bs (Lib.decDigits n))) ∧ At B b r ((w.alloc (.cells #[.pointer (some ⟨b, 0, none⟩)] 82)).alloc (.cells #[.bool sep] 4)) k ([] ++ t1 ++ [58, 58, 123] ++ [99, 108, 111, 115, 117, 114, 101] ++ [58] ++ name) T0 w') fun _ _ h => ⟨h.1, a.grow' h.2⟩)
    have WS := Lib.hid (fun (w1 : World) (a : At B b r ((w.alloc (.cells #[.pointer (some ⟨b, 0, none⟩)] 82)).alloc (.cells #[.bool sep] 4)) k ([] ++ t1 ++ [58, 58, 123] ++ [99, 108, 111, 115, 117, 114, 101] ++ [58] ++ name) T0 w1) => a.bws (35 :: (Lib.decDigits n ++ [125])) HS.out (HOL.out))
    have A0 := A.mono (G' := T0) fun _ _ => trivial
    clear hb hol hn A
    go_upto_region 50 with fail
    go_cut [] (fun wx => At B b r ((w.alloc (.cells #[.pointer (some ⟨b, 0, none⟩)] 82)).alloc (.cells #[.bool sep] 4)) k ([] ++ t1 ++ [58, 58, 123] ++ [99, 108, 111, 115, 117, 114, 101] ++ [58] ++ name ++ (35 :: (Lib.decDigits n ++ [125]))) T0 wx)
    case first =>
      go_region_with (first
        | (go_at_call 87; refine (FI.out _ ?_).mono ?_; (first | assumption | exact At.drewN (by assumption) 1); rintro e wf ⟨rfl, Af⟩; have cBf := At.box Af B0 (by decide))
        | (go_at_call 76; refine (WS.out _ ?_).mono ?_; (first | assumption | exact At.drewN (by assumption) 1); rintro e wg ⟨rfl, Ag⟩))
      all_goals go_wp2_with fail
      all_goals go_meet
      all_goals assumption
    case rest =>
    have A5 := hcut
    have cB0 := A5.box B0 (by decide)
    have c7 := A5.c7
    have g7 := A5.fz 7
    obtain ⟨v7, c7⟩ := c7
    go_wp2_with fail
    go_end0
    exact ((A5.setLast 125).mono (fun l e => by rw [e]; decide)).to rfl (by rw [HT.out]; simp) |>.post HI.out (((Kept.refl B w).alloc _).alloc _)

set_option maxHeartbeats 4000000 in
set_option maxRecDepth 100000 in
theorem path_N_S0 (sep : Bool) (lb : Nat) (sk : Bool) (inp k1 k t1 name txt : List UInt8) (n : Nat) (G1 : Nat → Prop) (h1 : Says 74 #[.bool sep] lb sk inp k1 t1 G1) (hn : n ≤ 4611686018427387904) (h2 : Names k1 k n name) (hname : name = []) (htxt : txt = t1 ++ ([58, 58, 123] ++ ([115, 104, 105, 109] ++ (((35 :: Lib.decDigits n) ++ [125]))))) :
    Says 74 #[.bool sep] lb sk (78 :: 83 :: inp) k txt NS := by
  subst hname
  intro B b r w hr hsk hlb hi ho
  have c1 : w.cell? ⟨b, 1, none⟩ = some (.string (bs r.str)) := by obtain ⟨ad, buf, h'⟩ := hr; exact h'.c1
  rw [hi] at c1
  have hlt := hr.lt
  have hln := hr.len
  rw [hi] at hln
  simp only [List.length_cons] at hln
  have ho' := ho
  rw [htxt] at ho'
  have HO := Lib.hid ho'
  clear ho ho'
  have HI := Lib.hid hi
  have HSK := Lib.hid hsk
  have HLB := Lib.hid hlb
  have HT := Lib.hid htxt
  clear hi hsk hlb htxt
  have A := At.start ((hr.alloc (.cells #[.pointer (some ⟨b, 0, none⟩)] 82)).alloc (.cells #[.bool sep] 4))
  obtain ⟨B0, B1⟩ := boxes2 w 82 4 (.pointer (some ⟨b, 0, none⟩)) (.bool sep)
  rw [HI.out] at A
  go_enter Tryz.func74, Tryz.ntmps74
  go_wp2_with fail
  refine (A.adv 78).mono ?_
  rintro e w1 ⟨rfl, A'⟩
  clear c1 hlt
  clear A; have A := A'; clear A'
  have cB0 := A.box B0 (by decide)
  have Ac1 := A.c1
  have Aln := A.len.2
  try simp only [List.length_cons] at Aln
  try simp only [List.cons_append, List.nil_append] at Ac1
  go_wp2_with fail
  refine (A.adv 83).mono ?_
  rintro e w2 ⟨rfl, A'⟩
  clear cB0 Ac1 Aln
  clear A; have A := A'; clear A'
  have cB0 := A.box B0 (by decide)
  have cB1 := A.box B1 (by decide)
  go_wp2_with fail
  refine (A.says h1 HSK.out HLB.out (fun hs0 => by have ho' := HO.out hs0; simp at ho' ⊢; omega)).mono ?_
  rintro e w3 ⟨rfl, A'⟩
  clear cB0 cB1
  clear A; have A := A'; clear A'
  have cB0 := A.box B0 (by decide)
  go_wp2_with fail
  refine (h2 B b r _ _ _ _ A).mono ?_
  rintro e w4 ⟨rfl, A'⟩
  clear cB0
  clear A; have A := A'; clear A'
  have cB0 := A.box B0 (by decide)
  go_wp2_with fail
  refine (A.ws [58, 58, 123] (by simp) (fun hs0 => by have ho' := HO.out hs0; simp at ho' ⊢; omega)).mono ?_
  rintro e w5 ⟨rfl, A'⟩
  clear cB0
  clear A; have A := A'; clear A'
  have cB0 := A.box B0 (by decide)
  go_wp2_with fail
  refine (A.ws [115, 104, 105, 109] (by simp) (fun hs0 => by have ho' := HO.out hs0; simp at ho' ⊢; omega)).mono ?_
  rintro e w6 ⟨rfl, A'⟩
  clear cB0
  clear A; have A := A'; clear A'
  have cB0 := A.box B0 (by decide)
  have Ac5 := A.c5
  cases hs : r.skip with
  | true =>
    rw [hs] at Ac5
    have HS := Lib.hid hs
    clear hs
    go_wp2_with fail
    go_end0
    exact (A.quiet HS.out).post HI.out (((Kept.refl B w).alloc _).alloc _)
  | false =>
    rw [hs] at Ac5
    have HS := Lib.hid hs
    clear hs
    have hb := HO.out HS.out
    have hol : r.out.length + (([] ++ t1 ++ [58, 58, 123] ++ [115, 104, 105, 109]).length + (bs (35 :: (Lib.decDigits n ++ [125]))).size) ≤ 1000000000 := by simp at hb ⊢; omega
    have HOL := Lib.hid hol
    have HN := Lib.hid hn
    have hdl := dec_len20 n hn
    have e1 : (⟨#[35]⟩ : ByteArray) ++ bs (Lib.decDigits n) = bs (35 :: Lib.decDigits n) := by rw [show (⟨#[35]⟩ : ByteArray) = bs [35] from rfl, bs_append]; rfl
    have e2 : bs (35 :: Lib.decDigits n) ++ (⟨#[125]⟩ : ByteArray) = bs (35 :: (Lib.decDigits n ++ [125])) := by rw [show (⟨#[125]⟩ : ByteArray) = bs [125] from rfl, bs_append]; rfl
    have g1 : ¬ 9223372036854775807 < 1 + (Lib.decDigits n).length := by omega
    have g2 : ¬ 9223372036854775807 < (Lib.decDigits n).length + 1 + 1 := by omega
    have FI := Lib.hid (fun (w1 : World) (a : At B b r ((w.alloc (.cells #[.pointer (some ⟨b, 0, none⟩)] 82)).alloc (.cells #[.bool sep] 4)) k ([] ++ t1 ++ [58, 58, 123] ++ [115, 104, 105, 109]) T0 w1) => (fmtInt_nat n hn w1 a.tab.pow10).mono (R' := fun e w' => e = .returned (.string (bs (Lib.decDigits n))) ∧ At B b r ((w.alloc (.cells #[.pointer (some ⟨b, 0, none⟩)] 82)).alloc (.cells #[.bool sep] 4)) k ([] ++ t1 ++ [58, 58, 123] ++ [115, 104, 105, 109]) T0 w') fun _ _ h => ⟨h.1, a.grow' h.2⟩)
    have WS := Lib.hid (fun (w1 : World) (a : At B b r ((w.alloc (.cells #[.pointer (some ⟨b, 0, none⟩)] 82)).alloc (.cells #[.bool sep] 4)) k ([] ++ t1 ++ [58, 58, 123] ++ [115, 104, 105, 109]) T0 w1) => a.bws (35 :: (Lib.decDigits n ++ [125])) HS.out (HOL.out))
    have A0 := A.mono (G' := T0) fun _ _ => trivial
    clear hb hol hn A
    go_upto_region 50 with fail
    go_cut [] (fun wx => At B b r ((w.alloc (.cells #[.pointer (some ⟨b, 0, none⟩)] 82)).alloc (.cells #[.bool sep] 4)) k ([] ++ t1 ++ [58, 58, 123] ++ [115, 104, 105, 109] ++ (35 :: (Lib.decDigits n ++ [125]))) T0 wx)
    case first =>
      go_region_with (first
        | (go_at_call 87; refine (FI.out _ ?_).mono ?_; (first | assumption | exact At.drewN (by assumption) 1); rintro e wf ⟨rfl, Af⟩; have cBf := At.box Af B0 (by decide))
        | (go_at_call 76; refine (WS.out _ ?_).mono ?_; (first | assumption | exact At.drewN (by assumption) 1); rintro e wg ⟨rfl, Ag⟩))
      all_goals go_wp2_with fail
      all_goals go_meet
      all_goals assumption
    case rest =>
    have A5 := hcut
    have cB0 := A5.box B0 (by decide)
    have c7 := A5.c7
    have g7 := A5.fz 7
    obtain ⟨v7, c7⟩ := c7
    go_wp2_with fail
    go_end0
    exact ((A5.setLast 125).mono (fun l e => by rw [e]; decide)).to rfl (by rw [HT.out]; simp) |>.post HI.out (((Kept.refl B w).alloc _).alloc _)

set_option maxHeartbeats 4000000 in
set_option maxRecDepth 100000 in
theorem path_N_S1 (sep : Bool) (lb : Nat) (sk : Bool) (inp k1 k t1 name txt : List UInt8) (n : Nat) (G1 : Nat → Prop) (h1 : Says 74 #[.bool sep] lb sk inp k1 t1 G1) (hn : n ≤ 4611686018427387904) (h2 : Names k1 k n name) (hne : name ≠ []) (htxt : txt = t1 ++ ([58, 58, 123] ++ ([115, 104, 105, 109] ++ ((58 :: name) ++ ((35 :: Lib.decDigits n) ++ [125]))))) :
    Says 74 #[.bool sep] lb sk (78 :: 83 :: inp) k txt NS := by
  have hnl : 0 < name.length := List.length_pos_iff.2 hne
  intro B b r w hr hsk hlb hi ho
  have c1 : w.cell? ⟨b, 1, none⟩ = some (.string (bs r.str)) := by obtain ⟨ad, buf, h'⟩ := hr; exact h'.c1
  rw [hi] at c1
  have hlt := hr.lt
  have hln := hr.len
  rw [hi] at hln
  simp only [List.length_cons] at hln
  have ho' := ho
  rw [htxt] at ho'
  have HO := Lib.hid ho'
  clear ho ho'
  have HI := Lib.hid hi
  have HSK := Lib.hid hsk
  have HLB := Lib.hid hlb
  have HT := Lib.hid htxt
  clear hi hsk hlb htxt
  have A := At.start ((hr.alloc (.cells #[.pointer (some ⟨b, 0, none⟩)] 82)).alloc (.cells #[.bool sep] 4))
  obtain ⟨B0, B1⟩ := boxes2 w 82 4 (.pointer (some ⟨b, 0, none⟩)) (.bool sep)
  rw [HI.out] at A
  go_enter Tryz.func74, Tryz.ntmps74
  go_wp2_with fail
  refine (A.adv 78).mono ?_
  rintro e w1 ⟨rfl, A'⟩
  clear c1 hlt
  clear A; have A := A'; clear A'
  have cB0 := A.box B0 (by decide)
  have Ac1 := A.c1
  have Aln := A.len.2
  try simp only [List.length_cons] at Aln
  try simp only [List.cons_append, List.nil_append] at Ac1
  go_wp2_with fail
  refine (A.adv 83).mono ?_
  rintro e w2 ⟨rfl, A'⟩
  clear cB0 Ac1 Aln
  clear A; have A := A'; clear A'
  have cB0 := A.box B0 (by decide)
  have cB1 := A.box B1 (by decide)
  go_wp2_with fail
  refine (A.says h1 HSK.out HLB.out (fun hs0 => by have ho' := HO.out hs0; simp at ho' ⊢; omega)).mono ?_
  rintro e w3 ⟨rfl, A'⟩
  clear cB0 cB1
  clear A; have A := A'; clear A'
  have cB0 := A.box B0 (by decide)
  go_wp2_with fail
  refine (h2 B b r _ _ _ _ A).mono ?_
  rintro e w4 ⟨rfl, A'⟩
  clear cB0
  clear A; have A := A'; clear A'
  have cB0 := A.box B0 (by decide)
  go_wp2_with fail
  refine (A.ws [58, 58, 123] (by simp) (fun hs0 => by have ho' := HO.out hs0; simp at ho' ⊢; omega)).mono ?_
  rintro e w5 ⟨rfl, A'⟩
  clear cB0
  clear A; have A := A'; clear A'
  have cB0 := A.box B0 (by decide)
  go_wp2_with fail
  refine (A.ws [115, 104, 105, 109] (by simp) (fun hs0 => by have ho' := HO.out hs0; simp at ho' ⊢; omega)).mono ?_
  rintro e w6 ⟨rfl, A'⟩
  clear cB0
  clear A; have A := A'; clear A'
  have cB0 := A.box B0 (by decide)
  go_wp2_with fail
  refine (A.wb 58 58 rfl (fun hs0 => by have ho' := HO.out hs0; simp at ho' ⊢; omega)).mono ?_
  rintro e w7 ⟨rfl, A'⟩
  clear cB0
  clear A; have A := A'; clear A'
  have cB0 := A.box B0 (by decide)
  go_wp2_with fail
  refine (A.ws name hne (fun hs0 => by have ho' := HO.out hs0; simp at ho' ⊢; omega)).mono ?_
  rintro e w8 ⟨rfl, A'⟩
  clear cB0
  clear A; have A := A'; clear A'
  have cB0 := A.box B0 (by decide)
  have Ac5 := A.c5
  cases hs : r.skip with
  | true =>
    rw [hs] at Ac5
    have HS := Lib.hid hs
    clear hs
    go_wp2_with fail
    go_end0
    exact (A.quiet HS.out).post HI.out (((Kept.refl B w).alloc _).alloc _)
  | false =>
    rw [hs] at Ac5
    have HS := Lib.hid hs
    clear hs
    have hb := HO.out HS.out
    have hol : r.out.length + (([] ++ t1 ++ [58, 58, 123] ++ [115, 104, 105, 109] ++ [58] ++ name).length + (bs (35 :: (Lib.decDigits n ++ [125]))).size) ≤ 1000000000 := by simp at hb ⊢; omega
    have HOL := Lib.hid hol
    have HN := Lib.hid hn
    have hdl := dec_len20 n hn
    have e1 : (⟨#[35]⟩ : ByteArray) ++ bs (Lib.decDigits n) = bs (35 :: Lib.decDigits n) := by rw [show (⟨#[35]⟩ : ByteArray) = bs [35] from rfl, bs_append]; rfl
    have e2 : bs (35 :: Lib.decDigits n) ++ (⟨#[125]⟩ : ByteArray) = bs (35 :: (Lib.decDigits n ++ [125])) := by rw [show (⟨#[125]⟩ : ByteArray) = bs [125] from rfl, bs_append]; rfl
    have g1 : ¬ 9223372036854775807 < 1 + (Lib.decDigits n).length := by omega
    have g2 : ¬ 9223372036854775807 < (Lib.decDigits n).length + 1 + 1 := by omega
    have FI := Lib.hid (fun (w1 : World) (a : At B b r ((w.alloc (.cells #[.pointer (some ⟨b, 0, none⟩)] 82)).alloc (.cells #[.bool sep] 4)) k ([] ++ t1 ++ [58, 58, 123] ++ [115, 104, 105, 109] ++ [58] ++ name) T0 w1) => (fmtInt_nat n hn w1 a.tab.pow10).mono (R' := fun e w' => e = .returned (.string (bs (Lib.decDigits n))) ∧ At B b r ((w.alloc (.cells #[.pointer (some ⟨b, 0, none⟩)] 82)).alloc (.cells #[.bool sep] 4)) k ([] ++ t1 ++ [58, 58, 123] ++ [115, 104, 105, 109] ++ [58] ++ name) T0 w') fun _ _ h => ⟨h.1, a.grow' h.2⟩)
    have WS := Lib.hid (fun (w1 : World) (a : At B b r ((w.alloc (.cells #[.pointer (some ⟨b, 0, none⟩)] 82)).alloc (.cells #[.bool sep] 4)) k ([] ++ t1 ++ [58, 58, 123] ++ [115, 104, 105, 109] ++ [58] ++ name) T0 w1) => a.bws (35 :: (Lib.decDigits n ++ [125])) HS.out (HOL.out))
    have A0 := A.mono (G' := T0) fun _ _ => trivial
    clear hb hol hn A
    go_upto_region 50 with fail
    go_cut [] (fun wx => At B b r ((w.alloc (.cells #[.pointer (some ⟨b, 0, none⟩)] 82)).alloc (.cells #[.bool sep] 4)) k ([] ++ t1 ++ [58, 58, 123] ++ [115, 104, 105, 109] ++ [58] ++ name ++ (35 :: (Lib.decDigits n ++ [125]))) T0 wx)
    case first =>
      go_region_with (first
        | (go_at_call 87; refine (FI.out _ ?_).mono ?_; (first | assumption | exact At.drewN (by assumption) 1); rintro e wf ⟨rfl, Af⟩; have cBf := At.box Af B0 (by decide))
        | (go_at_call 76; refine (WS.out _ ?_).mono ?_; (first | assumption | exact At.drewN (by assumption) 1); rintro e wg ⟨rfl, Ag⟩))
      all_goals go_wp2_with fail
      all_goals go_meet
      all_goals assumption
    case rest =>
    have A5 := hcut
    have cB0 := A5.box B0 (by decide)
    have c7 := A5.c7
    have g7 := A5.fz 7
    obtain ⟨v7, c7⟩ := c7
    go_wp2_with fail
    go_end0
    exact ((A5.setLast 125).mono (fun l e => by rw [e]; decide)).to rfl (by rw [HT.out]; simp) |>.post HI.out (((Kept.refl B w).alloc _).alloc _)

end Go.Proofs.YtidokamjbglkbaaGreatDoor

/- implPath: a path that is not told. -/
namespace Go.Proofs.YtidokamjbglkbaaGreatDoor
open Go.RowKit

theorem Rst.setSkip {B b : Nat} {r : RS} {w : World} (h : Rst B b r w) (x : Bool) : Rst B b { r with skip := x } (w.setCell ⟨b, 5, none⟩ (.bool x)) := by
  obtain ⟨ad, buf, h⟩ := h; exact (h.setSkip x).rst
theorem Rst.keeps {B b : Nat} {r : RS} {a w : World} (h : Rst B b r w) (k : Kept B a w) (j : Nat) (v : Value) : Kept B a (w.setCell ⟨b, j, none⟩ v) :=
  k.setCell (p := ⟨b, j, none⟩) (.inr ⟨h.hB, h.kind⟩) v

def PostW (B b : Nat) (r : RS) (inp k : List UInt8) (w w' : World) : Prop := ∃ o l : Nat, o + k.length = r.off + inp.length ∧ Rst B b (r.to k o [] l) w' ∧ Kept B w w'

set_option maxHeartbeats 1000000 in
theorem impl_back (p q : Addr) (b : Nat) (x y : Bool) (u : FrameMode) (w : World) (h1 : w.cell? p = some (.pointer (some ⟨b, 0, none⟩))) (h2 : w.cell? q = some (.bool x)) (h3 : w.cell? ⟨b, 5, none⟩ = some (.bool y)) (h4 : w.frozen? ⟨b, 5, none⟩ = false) :
    CallsD Tryz.prog 102 #[.pointer (some q), .pointer (some p)] u w fun e u' w' => u' = u ∧ (e = .returned (.tuple #[]) ∧ w' = w.setCell ⟨b, 5, none⟩ (.bool x)) := by
  go_enter_d Tryz.func102, Tryz.ntmps102
  go_wp2
  go_end0
  exact ⟨rfl, rfl⟩

set_option maxHeartbeats 4000000 in
set_option maxRecDepth 100000 in
theorem impl_any (lb : Nat) (sk : Bool) (n : Nat) (inp k t : List UInt8) (G : Nat → Prop) (hn : n ≤ 4611686018427387904) (h0 : ∃ c l, inp = c :: l ∧ c.toNat ≠ 115) (h : Says 74 #[.bool false] lb true inp k t G) : Says 85 #[] lb sk (dis n ++ inp) k [] T0 := by
  intro B b r w hr hsk hlb hi ho
  have hmf : ∀ (fn : Fn) (first cap : Array Value) (w : World), (Instr.makeFunc fn first cap).run Tryz.prog w = .ok (.func fn first cap) w := fun _ _ _ _ => rfl
  have c5 : w.cell? ⟨b, 5, none⟩ = some (.bool r.skip) := by obtain ⟨ad, buf, h'⟩ := hr; exact h'.c5
  have f5 : w.frozen? ⟨b, 5, none⟩ = false := by obtain ⟨ad, buf, h'⟩ := hr; exact h'.fz 5
  have hlt := hr.lt
  have hrb := hr.hB
  have K1 : Kept B w (((w.setCell ⟨b, 5, none⟩ (.bool true)).alloc (.cells #[.pointer (some ⟨b, 0, none⟩)] 82)).alloc (.cells #[.bool sk] 4)) := ((hr.keeps (Kept.refl B w) 5 (.bool true)).alloc _).alloc _
  have R1 := ((hr.setSkip true).alloc (.cells #[.pointer (some ⟨b, 0, none⟩)] 82)).alloc (.cells #[.bool sk] 4)
  have A := At.start R1
  obtain ⟨B0, B1⟩ := boxes2 (w.setCell ⟨b, 5, none⟩ (.bool true)) 82 4 (.pointer (some ⟨b, 0, none⟩)) (.bool sk)
  have hsz : (w.setCell ⟨b, 5, none⟩ (.bool true)).heap.size = w.heap.size := by simp [World.setCell]
  rw [hsz] at B0 B1
  have hstr : ({ r with skip := true } : RS).str = dis n ++ inp := hi
  rw [hstr] at A
  have HSK := Lib.hid hsk
  have HI := Lib.hid hi
  have HLB := Lib.hid hlb
  have H0 := Lib.hid h0
  have K := Lib.hid K1
  rw [hsk] at c5
  clear hi hsk hlb ho h0 K1 R1 hsz hstr
  go_enter_defers Tryz.func85, Tryz.ntmps85
  go_wp2_with fail
  refine (A.disamb n inp hn H0.out).mono ?_
  rintro e w1 ⟨rfl, A1⟩
  clear A c5 f5
  have cB0 := A1.box B0 (by decide)
  go_wp2_with fail
  refine (A1.says h rfl HLB.out (fun e => by cases e)).mono ?_
  rintro e w2 ⟨rfl, A2⟩
  clear A1 cB0
  have cB0 := A2.box B0 (by decide)
  have cB1 := A2.box B1 (by decide)
  have c5 := A2.c5
  have f5 := A2.fz 5
  have FIN : Hid (PostW B b r (dis n ++ inp) k w (w2.setCell ⟨b, 5, none⟩ (.bool sk))) := by
    obtain ⟨o, l, a1, _, a3, a4⟩ := A2
    refine ⟨o, l, by simpa using a1, ?_, ?_⟩
    · have := a3.setSkip sk
      refine this.cast ?_
      cases r
      have := HSK.out
      simp only at this
      subst this
      simp [RS.to]
    · exact a3.keeps (K.out.trans a4) 5 _
  clear A2
  go_wp2
  refine leaves_cons (f := 102) (args := #[.pointer (some ⟨w.heap.size + 1, 0, none⟩), .pointer (some ⟨w.heap.size, 0, none⟩)]) (by simp) (by simp [go_sem]) ?_
  refine (impl_back ⟨w.heap.size, 0, none⟩ ⟨w.heap.size + 1, 0, none⟩ b sk true .returning _ cB0 cB1 c5 f5).mono ?_
  rintro e u' w'' ⟨rfl, rfl, rfl⟩
  refine ⟨_, results_none rfl _ _ _, ?_⟩
  obtain ⟨o, l, a1, a2, a3⟩ := FIN.out
  exact ⟨rfl, o, l, a1, fun _ => trivial, a2, a3⟩
end Go.Proofs.YtidokamjbglkbaaGreatDoor

/- basicType: the table of the basic types, looked up. -/
namespace Go.Proofs.YtidokamjbglkbaaGreatDoor
open Go.RowKit

abbrev tMap : TypeId := 127
abbrev gBasic : Nat := 3
abbrev basicD : DataW Unit := Rows.laid_loop_example_pub_g01453_pub_rustdemangle_rustBasicTypes
theorem basicG : Tryz.prog.globalNamed "loop.example/pub-g01453/pub/rustdemangle.rustBasicTypes" = some gBasic := by kernel_rfl
theorem basicGT : (Tryz.prog.globals[gBasic]?).map (·.type) = some tMap := by kernel_rfl
theorem zeroStr (w : World) : (zeroValue tB).run Tryz.prog w = .ok (.int .u8 0) w := by kernel_rfl
theorem zeroString (w : World) : (zeroValue 9).run Tryz.prog w = .ok (.string ⟨#[]⟩) w := by kernel_rfl

/-- The table in the memory where the call begins. -/
theorem basic_at {W : World} (h : TabsAt W) : ∃ bm, W.cell? ⟨gBasic, 0, none⟩ = some (.map (some bm)) ∧ gBasic < W.heap.size ∧ bm < W.heap.size ∧ ∃ n, W.ownsMap Tryz.prog tB (plainElem (H := Unit) Tryz.prog 9) bm n basicD := by
  obtain ⟨L, hL, hm, _, _⟩ := h.rest
  obtain ⟨g, t, cs, fuel, p, hg, ht, hv, hd⟩ := Lib.laidMet.reads hL hm
  obtain rfl := Option.some.inj (basicG.symm.trans hg)
  obtain rfl := Option.some.inj (basicGT.symm.trans ht)
  rcases WideElems.open_map Tryz.underlying127 hd with ⟨_, hx⟩ | ⟨bm, es, clock, n, _, hcs, hb, _, F, hx⟩
  · exact absurd (Prod.mk.inj hx).1 (by intro e; cases e)
  · have hc : W.cell? ⟨gBasic, 0, none⟩ = some (.map (some bm)) := by
      rw [World.var?_cell basicG hv 0]
      have : cs.toList[0]? = some (.map (some bm)) := by rw [hcs]; rfl
      simpa using this
    refine ⟨bm, hc, ?_, (Array.getElem?_eq_some_iff.1 hb).1, es.size, ?_⟩
    · rcases Nat.lt_or_ge gBasic W.heap.size with h' | h'
      · exact h'
      · simp [World.cell?, Array.getElem?_eq_none h'] at hc
    · have := World.ownsMap_of_fit (R := plainElem (H := Unit) Tryz.prog 9) hb F (fun x _ z hz => elemAt_plainElem_string Tryz.underlying9 hz)
      rw [← (Prod.mk.inj hx).1] at this
      exact this

theorem basic_cases {c : Nat} (h : basicText c ≠ []) : c = 97 ∨ c = 98 ∨ c = 99 ∨ c = 100 ∨ c = 101 ∨ c = 102 ∨ c = 104 ∨ c = 105 ∨ c = 106 ∨ c = 108 ∨ c = 109 ∨ c = 110 ∨ c = 111 ∨ c = 112 ∨ c = 115 ∨ c = 116 ∨ c = 117 ∨ c = 118 ∨ c = 120 ∨ c = 121 ∨ c = 122 := by
  refine Classical.byContradiction fun hn => h ?_
  unfold basicText
  simp only [not_or] at hn
  obtain ⟨h1, h2, h3, h4, h5, h6, h7, h8, h9, h10, h11, h12, h13, h14, h15, h16, h17, h18, h19, h20, h21⟩ := hn
  simp only [if_neg h1, if_neg h2, if_neg h3, if_neg h4, if_neg h5, if_neg h6, if_neg h7, if_neg h8, if_neg h9, if_neg h10, if_neg h11, if_neg h12, if_neg h13, if_neg h14, if_neg h15, if_neg h16, if_neg h17, if_neg h18, if_neg h19, if_neg h20, if_neg h21]
theorem basic_has {c : Nat} (h : basicText c ≠ []) : Maps.has basicD (.int .u8 c) = true ∧ basicD.atKey (.int .u8 c) (.lit (.string [])) = .lit (.string (basicText c)) := by
  rcases basic_cases h with rfl | rfl | rfl | rfl | rfl | rfl | rfl | rfl | rfl | rfl | rfl | rfl | rfl | rfl | rfl | rfl | rfl | rfl | rfl | rfl | rfl
  all_goals exact ⟨rfl, rfl⟩

theorem basic_last {c : Nat} (h : basicText c ≠ []) : ((basicText c).getLast h).toNat ≠ 32 := by
  have key : ∀ c, c ≤ 122 → ∀ h : basicText c ≠ [], ((basicText c).getLast h).toNat ≠ 32 := by decide
  refine key c ?_ h
  rcases basic_cases h with h | h | h | h | h | h | h | h | h | h | h | h | h | h | h | h | h | h | h | h | h <;> omega
/-- The look-up, in whatever world that holds the table. -/
theorem basic_look {B : Nat} {w : World} (hT : Tabs B w) : ∃ bm, w.cell? ⟨gBasic, 0, none⟩ = some (.map (some bm)) ∧
    ∀ (c : Nat), basicText c ≠ [] → ∀ n, (Instr.lookup tMap (.map (some bm)) (.int .u8 c) true).run Tryz.prog (w.drewN n) = .ok (.tuple #[.string (bs (basicText c)), .bool true]) (w.drewN n) := by
  obtain ⟨W, h1, h2, h3⟩ := hT
  obtain ⟨bm, hc, hg, hb, n, es, clock, he, F, hn, hD⟩ := basic_at h1
  refine ⟨bm, ?_, ?_⟩
  · rw [← hc]; simp only [World.cell?, h3 gBasic hg]
  · intro c hcc m
    have own : (w.drewN m).ownsMap Tryz.prog tB (plainElem (H := Unit) Tryz.prog 9) bm n basicD := ⟨es, clock, (h3 bm hb).trans he, F, hn, hD⟩
    have hlt : c ≤ 255 := by rcases basic_cases hcc with h | h | h | h | h | h | h | h | h | h | h | h | h | h | h | h | h | h | h | h | h <;> omega
    obtain ⟨v, ps, hr, hv⟩ := own.look_ok (Maps.int_keyed Tryz.underlying5) Tryz.underlying127 (z := .string ⟨#[]⟩) (zeroString _) (zd := .lit (.string [])) (zp := []) (by
        unfold plainElem; rw [Tryz.underlying9]; rfl) (key := .int .u8 c) (kl := .int .u8 c) (Maps.keyOf_int_mk Tryz.underlying5 (by
        simp [Lit.wf, IntKind.min, IntKind.max, IntKind.signed, IntKind.bits]; omega))
    obtain ⟨b1, b2⟩ := basic_has hcc
    rw [b1] at hr
    rw [b2] at hv
    obtain ⟨s, rfl, hs, _⟩ := plainElem_string_inv Tryz.underlying9 hv
    have : s.data.toList = basicText c := by
      have := (Prod.mk.inj hs).1
      simp at this
      exact this.symm
    rw [hr, ← this, bs_of]

set_option maxHeartbeats 2000000 in
set_option maxRecDepth 100000 in
theorem basicType_any (lb : Nat) (sk : Bool) (c : UInt8) (k txt : List UInt8) (hc : basicText c.toNat ≠ []) (htxt : txt = basicText c.toNat) : Says 103 #[] lb sk (c :: k) k txt NS := by
  intro B b r w hr hsk hlb hi ho
  have c1 : w.cell? ⟨b, 1, none⟩ = some (.string (bs r.str)) := by obtain ⟨ad, buf, h'⟩ := hr; exact h'.c1
  rw [hi] at c1
  have hln := hr.len
  rw [hi] at hln
  simp only [List.length_cons] at hln
  have HI := Lib.hid hi
  have HT := Lib.hid htxt
  have HO := Lib.hid ho
  have A := At.start hr
  rw [hi] at A
  have HL := hr.lt
  obtain ⟨bm, g1, look⟩ := basic_look hr.tab
  have look1 := look c.toNat hc
  clear look
  have HC := Lib.hid hc
  clear hi hsk hlb ho htxt hc
  go_enter Tryz.func103, Tryz.ntmps103
  go_wp2_with fail
  go_quiet (fail)
  have A2 := A.drewN nq
  clear A c1 g1 look1
  go_wp2_with fail
  refine (A2.adv c).mono ?_
  rintro e w1 ⟨rfl, A⟩
  clear A2
  go_wp2_with fail
  refine (A.ws (basicText c.toNat) HC.out (fun hs0 => by have a := HO.out hs0; rw [HT.out] at a; simpa using a)).mono ?_
  rintro e w2 ⟨rfl, A'⟩
  clear A
  go_wp2_with fail
  go_end0
  exact (A'.mono fun l e => by rw [e]; exact basic_last HC.out).to rfl (by rw [HT.out]; rfl) |>.post HI.out (Kept.refl B w)

set_option maxHeartbeats 4000000 in
set_option maxRecDepth 100000 in
theorem type_basic (lb : Nat) (sk : Bool) (c : UInt8) (k txt : List UInt8) (hc : basicText c.toNat ≠ []) (htxt : txt = basicText c.toNat) : Says 86 #[] lb sk (c :: k) k txt NS := by
  have hlow : 97 ≤ c.toNat ∧ c.toNat ≤ 122 := by
    rcases basic_cases hc with h | h | h | h | h | h | h | h | h | h | h | h | h | h | h | h | h | h | h | h | h <;> omega
  have hf := basicType_any lb sk c k txt hc htxt
  obtain ⟨hl1, hl2⟩ := hlow
  intro B b r w hr hsk hlb hi ho
  have c1 : w.cell? ⟨b, 1, none⟩ = some (.string (bs r.str)) := by obtain ⟨ad, buf, h'⟩ := hr; exact h'.c1
  rw [hi] at c1
  have hln := hr.len
  rw [hi] at hln
  simp only [List.length_cons] at hln
  have A := At.start hr
  rw [hi] at A
  have HI := Lib.hid hi
  have HSK := Lib.hid hsk
  have HLB := Lib.hid hlb
  have HO := Lib.hid ho
  clear hi hsk hlb ho htxt hc
  go_enter Tryz.func86, Tryz.ntmps86
  go_wp2_with fail
  refine (A.says hf HSK.out HLB.out (fun e => by simpa using HO.out e)).mono ?_
  rintro e w2 ⟨rfl, A'⟩
  clear A c1
  go_wp2
  go_end0
  exact A'.to rfl rfl |>.post HI.out (Kept.refl B w)
end Go.Proofs.YtidokamjbglkbaaGreatDoor

