/- Constants. -/
import Derived.Test.YtidokamjbglkbaaGreatDoorY11
import Derived.Test.YtidokamjbglkbaaGreatDoorY01
import Derived.StillTailTactics
import Derived.Deep.DeepCutAuto
import Derived.Deep.CutBlock
namespace Go.Proofs.YtidokamjbglkbaaGreatDoor
open Go.RowKit

set_option maxHeartbeats 4000000 in
set_option maxRecDepth 100000 in
theorem const_hole (lb : Nat) (sk : Bool) (k txt : List UInt8) (htxt : txt = [95]) : Says 104 #[] lb sk (112 :: k) k txt T0 := by
  intro B b r w hr hsk hlb hi ho
  have c1 : w.cell? ⟨b, 1, none⟩ = some (.string (bs r.str)) := by obtain ⟨ad, buf, h'⟩ := hr; exact h'.c1
  rw [hi] at c1
  have hln := hr.len
  rw [hi] at hln
  simp only [List.length_cons] at hln
  have ho' := ho
  rw [htxt] at ho'
  have HO := Lib.hid ho'
  clear ho ho'
  have HI := Lib.hid hi
  have HT := Lib.hid htxt
  clear hsk hlb htxt
  have A := At.start hr
  rw [hi] at A
  clear hi
  go_enter Tryz.func104, Tryz.ntmps104
  go_step3
  go_wp2_with fail
  refine (A.adv 112).mono ?_
  rintro e w1 ⟨rfl, A'⟩
  go_wp2_with fail
  refine (A'.wb 95 95 rfl (fun hs0 => by have ho' := HO.out hs0; simp at ho' ⊢; omega)).mono ?_
  rintro e w2 ⟨rfl, A''⟩
  go_wp2_with fail
  rw [Exit.noGoto_ret]
  refine bodyPost_ret (results_none rfl _ _ _) rfl ?_
  exact ((A''.mono fun _ _ => trivial).to rfl (by rw [HT.out]; rfl)).post HI.out (Kept.refl B w)

set_option maxHeartbeats 16000000 in
set_option maxRecDepth 100000 in
theorem const_num (lb : Nat) (sk : Bool) (c : UInt8) (n K : Nat) (neg : Bool) (hK : KindOk K c n neg) (hn : n < 18446744073709551616) (k txt : List UInt8) (htxt : txt = negText neg ++ constText K n) :
    Says 104 #[] lb sk (c :: (negCode neg ++ (h16 n ++ 95 :: k))) k txt T0 := by
  intro B b r w hr hsk hlb hi ho
  have c1 : w.cell? ⟨b, 1, none⟩ = some (.string (bs r.str)) := by obtain ⟨ad, buf, h'⟩ := hr; exact h'.c1
  rw [hi] at c1
  have hln := hr.len
  rw [hi] at hln
  simp only [List.length_cons, List.length_append] at hln
  have ho' := ho
  rw [htxt] at ho'
  have HO := Lib.hid ho'
  clear ho ho'
  have HI := Lib.hid hi
  have HT := Lib.hid htxt
  have HC := Lib.hid hK
  have HN := Lib.hid hn
  have hb1 : ((c.toNat : Int) == 66) = false := by unfold KindOk isSg isUn at hK; rw [beq_eq_false_iff_ne]; omega
  have hb2 : ((c.toNat : Int) == 112) = false := by unfold KindOk isSg isUn at hK; rw [beq_eq_false_iff_ne]; omega
  have hD : (h16 n).length ≤ 16 := h16_len n 15 (by omega)
  have hD1 : 1 ≤ (h16 n).length := by
    have := h16_ne n
    cases h : h16 n with
    | nil => exact absurd h this
    | cons _ _ => simp
  have HSK := Lib.hid hsk
  clear hlb htxt hK hn hsk
  have A := At.start hr
  rw [hi] at A
  clear hi
  go_enter Tryz.func104, Tryz.ntmps104
  go_step3
  go_upto_block 0 with fail
  go_cut [3] (fun s wx => s = .int .i64 K ∧ w = wx)
  case first => as_aux_lemma =>
    have h := HC.out
    clear A hr c1
    unfold KindOk isSg isUn at h
    rcases h with ⟨rfl, h | h | h | h | h | h⟩ | ⟨rfl, h | h | h | h | h | h, _⟩ | ⟨rfl, h, _⟩ | ⟨rfl, h, _⟩
    all_goals
      go_wp2_with fail
      go_meet
      exact ⟨rfl, rfl⟩
  case rest =>
    obtain ⟨rfl, rfl⟩ := hcut
    go_wp2_with fail
    refine (A.adv c).mono ?_
    rintro e w1 ⟨rfl, A'⟩
    clear c1
    go_upto_region 30 with fail
    go_cut [82] (fun s wx => s = .bool neg ∧ w1 = wx)
    case first => as_aux_lemma =>
      have h := HC.out
      cases neg with
      | true =>
        have hK1 : K = 1 := by unfold KindOk at h; simp at h; omega
        subst hK1
        simp only [negCode, if_true, List.cons_append, List.nil_append] at A'
        have c1 := A'.c1
        have hl2 := A'.len.2
        simp only [List.length_cons, List.length_append] at hl2
        clear A hr h A'
        go_wp2_with fail
        go_meet
        exact ⟨rfl, rfl⟩
      | false =>
        simp only [negCode, Bool.false_eq_true, if_false, List.nil_append] at A'
        by_cases hK1 : K = 1
        · subst hK1
          obtain ⟨q, l, hq, _⟩ := h16_head n
          have hq110 : ((q.toNat : Int) == 110) = false := by
            have := h16_is n q (by rw [hq]; simp)
            unfold is16 at this; rw [beq_eq_false_iff_ne]; omega
          have hlq : (h16 n).length = l.length + 1 := by rw [hq]; rfl
          have c1 := A'.c1
          rw [hq] at c1
          simp only [List.cons_append] at c1
          have hln2 : l.length ≤ 16 := by omega
          clear hq hlq A hr h A'
          go_wp2_with fail
          go_meet
          exact ⟨rfl, rfl⟩
        · have hK2 : ((K : Int) == 1) = false := by rw [beq_eq_false_iff_ne]; omega
          clear A hr h A'
          go_wp2_with fail
          go_meet
          exact ⟨rfl, rfl⟩
    case rest =>
    obtain ⟨rfl, rfl⟩ := hcut
    go_upto_if 82 with fail
    go_cut [] (fun wx => At B b r w (h16 n ++ 95 :: k) (negText neg) T0 wx)
    case first => as_aux_lemma =>
      cases neg with
      | true =>
        simp only [negCode, if_true, List.cons_append, List.nil_append] at A'
        clear A hr
        go_wp2_with fail
        refine (A'.adv 110).mono ?_
        rintro e w2 ⟨rfl, A''⟩
        go_wp2_with fail
        refine (A''.wb 45 45 rfl (fun hs0 => by have ho' := HO.out hs0; simp [negText] at ho' ⊢; omega)).mono ?_
        rintro e w3 ⟨rfl, A3⟩
        go_wp2_with fail
        go_meet
        exact A3.mono (fun _ _ => trivial)
      | false =>
        simp only [negCode, Bool.false_eq_true, if_false, List.nil_append] at A'
        have AL := A'.mono (G' := T0) (fun _ _ => trivial)
        clear A hr A'
        go_wp2_with fail
        go_meet
        exact AL
    case rest =>
      have AL := hcut
      have c1 := AL.c1
      clear hcut A A'
      go_wp2_with fail
      go_step3
      go_wp2_with fail
      go_loopg [5, 6] ((h16 n).length + 1) (fun g d v wr => ∃ (todo : List UInt8) (x cnt : Nat), g = todo.length + 1 ∧ d = .int .i64 cnt ∧ v = .int .u64 x ∧ f16 todo x = n ∧ (∀ c ∈ todo, is16 c) ∧ NZ x todo ∧
        cnt + todo.length = (h16 n).length ∧ At B b r w (todo ++ 95 :: k) (negText neg) T0 wr)
      case atStart =>
        obtain ⟨q, l, hq, h48⟩ := h16_head n
        refine ⟨h16 n, 0, 0, rfl, rfl, rfl, h16_f n, h16_is n, ?_, by simp, AL⟩
        intro _ c' l' e
        rw [hq] at e
        injection e with e1 e2
        subst e1; subst e2
        exact h48
      case round =>
        obtain ⟨todo, x, cnt, rfl, rfl, rfl, hf, ht, hnz, hcnt, AR⟩ := hrel
        clear c1
        have hlr := AR.len.2
        cases todo with
        | nil => as_aux_lemma =>
          have c1 := AR.c1
          simp only [List.nil_append] at c1
          simp only [List.nil_append, List.length_cons] at hlr
          have hx : x = n := by rw [← hf, f16_nil]
          subst hx
          have hcn : cnt = (h16 x).length := by simpa using hcnt
          subst hcn
          clear hf ht hnz hcnt AL
          go_wp2_with fail
          refine (AR.adv 95).mono ?_
          rintro e w4 ⟨rfl, A4⟩
          clear c1 AR
          have hDi : decide ((h16 x).length = 0) = false := decide_eq_false (by omega)
          have hDj : (((h16 x).length : Int) == 0) = false := by rw [beq_eq_false_iff_ne]; omega
          have h := HC.out
          unfold KindOk at h
          have c5 := A4.c5
          have fin : ∀ (w' : World) (t' : List UInt8), At B b r w k t' T0 w' → (r.skip = false → t' = txt) → Post B b r (c :: (negCode neg ++ (h16 x ++ 95 :: k))) k txt T0 w (.returned (.tuple #[])) w' := by
            intro w' t' h1 h2
            cases hs : r.skip with
            | false => exact (h1.to rfl (h2 hs)).post HI.out (Kept.refl B w)
            | true =>
              obtain ⟨o, l, a1, a2, a3, a4⟩ := h1
              exact ⟨rfl, o, l, by rw [← HI.out]; exact a1, a2, a3.cast (by simp [RS.to, hs]), a4⟩
          have FIN := Lib.hid fin
          have hx64 := HN.out
          clear fin
          rcases h with ⟨rfl, _⟩ | ⟨rfl, _⟩ | ⟨rfl, _, rfl, h1⟩ | ⟨rfl, _, rfl, h1, h2, h3, h4⟩
          · as_aux_lemma =>
            cases hsk2 : r.skip with
            | true =>
              rw [hsk2] at c5
              have HS := Lib.hid hsk2
              clear hsk2
              go_wp2_with fail
              refine bodyPost_end (results_none rfl _ _ _) rfl ?_
              exact FIN.out _ _ A4 (fun e => by rw [HS.out] at e; cases e)
            | false =>
              rw [hsk2] at c5
              have HS := Lib.hid hsk2
              clear hsk2
              have HX := Lib.hid hx64
              have hol : r.out.length + ((negText neg).length + (bs (Lib.decDigits x)).size) ≤ 1000000000 := by simpa [constText] using HO.out HS.out
              have HOL := Lib.hid hol
              clear hx64 hol
              go_upto_region 62 with fail
              go_cut [] (fun wx => At B b r w k (negText neg ++ Lib.decDigits x) T0 wx)
              case first =>
                go_region_with (first
                  | (go_at_call 119; refine (FormatUint_any x HX.out _ ?_).mono ?_; exact Tabs.pow10 (At.tab (B := B) (b := b) (r0 := r) (w0 := w) (k := k) (txt := negText neg) (G := T0) (by first | exact A4 | exact A4.drewN _ | exact A4.drewN 1)); rintro e wf ⟨rfl, kf, osf, rfl⟩)
                  | (go_at_call 76; refine (At.bws (Lib.decDigits x) (A4.grow _ _) HS.out (by have := HOL.out; simpa using this)).mono ?_; rintro e wf ⟨rfl, Af⟩))
                all_goals go_wp2_with fail
                all_goals go_meet
                all_goals exact Af
              case rest =>
              have A5 := hcut
              have c7 := A5.c7
              have g7 := A5.fz 7
              obtain ⟨v7, c7⟩ := c7
              go_wp2_with fail
              refine bodyPost_end (results_none rfl _ _ _) rfl ?_
              exact FIN.out _ _ ((A5.setLast 48).mono (fun _ _ => trivial)) (fun _ => HT.out.symm)
          · as_aux_lemma =>
            cases hsk2 : r.skip with
            | true =>
              rw [hsk2] at c5
              have HS := Lib.hid hsk2
              clear hsk2
              go_wp2_with fail
              refine bodyPost_end (results_none rfl _ _ _) rfl ?_
              exact FIN.out _ _ A4 (fun e => by rw [HS.out] at e; cases e)
            | false =>
              rw [hsk2] at c5
              have HS := Lib.hid hsk2
              clear hsk2
              have HX := Lib.hid hx64
              have hol : r.out.length + ((negText neg).length + (bs (Lib.decDigits x)).size) ≤ 1000000000 := by simpa [constText] using HO.out HS.out
              have HOL := Lib.hid hol
              clear hx64 hol
              go_upto_region 62 with fail
              go_cut [] (fun wx => At B b r w k (negText neg ++ Lib.decDigits x) T0 wx)
              case first =>
                go_region_with (first
                  | (go_at_call 119; refine (FormatUint_any x HX.out _ ?_).mono ?_; exact Tabs.pow10 (At.tab (B := B) (b := b) (r0 := r) (w0 := w) (k := k) (txt := negText neg) (G := T0) (by first | exact A4 | exact A4.drewN _ | exact A4.drewN 1)); rintro e wf ⟨rfl, kf, osf, rfl⟩)
                  | (go_at_call 76; refine (At.bws (Lib.decDigits x) (A4.grow _ _) HS.out (by have := HOL.out; simpa using this)).mono ?_; rintro e wf ⟨rfl, Af⟩))
                all_goals go_wp2_with fail
                all_goals go_meet
                all_goals exact Af
              case rest =>
              have A5 := hcut
              have c7 := A5.c7
              have g7 := A5.fz 7
              obtain ⟨v7, c7⟩ := c7
              go_wp2_with fail
              refine bodyPost_end (results_none rfl _ _ _) rfl ?_
              exact FIN.out _ _ ((A5.setLast 48).mono (fun _ _ => trivial)) (fun _ => HT.out.symm)
          · as_aux_lemma =>
            have hD2 : (h16 x).length ≤ 1 := h16_len x 0 (by omega)
            have h01 : x = 0 ∨ x = 1 := by omega
            clear hx64 c5
            rcases h01 with rfl | rfl
            · have hol := Lib.hid (show r.skip = false → r.out.length + ((negText false).length + 5) ≤ 1000000000 from fun hs0 => by simpa [constText, negText] using HO.out hs0)
              go_wp2_with fail
              refine (A4.ws [102, 97, 108, 115, 101] (by simp) hol.out).mono ?_
              rintro e w5 ⟨rfl, A5⟩
              go_wp2_with fail
              refine bodyPost_end (results_none rfl _ _ _) rfl ?_
              exact FIN.out _ _ (A5.mono (fun _ _ => trivial)) (fun _ => by rw [HT.out]; rfl)
            · have hol := Lib.hid (show r.skip = false → r.out.length + ((negText false).length + 4) ≤ 1000000000 from fun hs0 => by simpa [constText, negText] using HO.out hs0)
              go_wp2_with fail
              refine (A4.ws [116, 114, 117, 101] (by simp) hol.out).mono ?_
              rintro e w5 ⟨rfl, A5⟩
              go_wp2_with fail
              refine bodyPost_end (results_none rfl _ _ _) rfl ?_
              exact FIN.out _ _ (A5.mono (fun _ _ => trivial)) (fun _ => by rw [HT.out]; rfl)
          · as_aux_lemma =>
            have hD2 : (h16 x).length ≤ 6 := h16_len x 5 (by omega)
            have hol := Lib.hid (show r.skip = false → r.out.length + 3 ≤ 1000000000 from fun hs0 => by simpa [constText, negText] using HO.out hs0)
            have h39 : ((x : Int) == 39) = false := by rw [beq_eq_false_iff_ne]; omega
            have h92 : ((x : Int) == 92) = false := by rw [beq_eq_false_iff_ne]; omega
            clear hx64 c5
            go_wp2_with fail
            refine (A4.wb 39 39 rfl (fun hs0 => by have hol := hol.out hs0; simp [negText]; omega)).mono ?_
            rintro e w5 ⟨rfl, A5⟩
            go_wp2_with fail
            refine (A5.wb (UInt8.ofNat x) (x : Int) (by rw [UInt8.toNat_ofNat_of_lt']; show x < 256; omega) (fun hs0 => by have hol := hol.out hs0; simp [negText]; omega)).mono ?_
            rintro e w6 ⟨rfl, A6⟩
            go_wp2_with fail
            refine (A6.wb 39 39 rfl (fun hs0 => by have hol := hol.out hs0; simp [negText]; omega)).mono ?_
            rintro e w7 ⟨rfl, A7⟩
            go_wp2_with fail
            refine bodyPost_end (results_none rfl _ _ _) rfl ?_
            exact FIN.out _ _ (A7.mono (fun _ _ => trivial)) (fun _ => by rw [HT.out]; simp [negText, constText])
        | cons d todo => as_aux_lemma =>
          have c1 := AR.c1
          simp only [List.cons_append] at c1
          simp only [List.cons_append, List.length_cons, List.length_append] at hlr
          have hd := ht d (by simp)
          have hx : x * 16 + d16 d < 18446744073709551616 := by
            have := f16_ge todo (x * 16 + d16 d)
            rw [← f16_cons, hf] at this
            have := HN.out; omega
          have fin : ∀ (v : Int) (w5 : World), v = ((x * 16 + d16 d : Nat) : Int) → At B b r w (todo ++ 95 :: k) (negText neg) T0 w5 →
              ∃ (todo' : List UInt8) (x' cnt' : Nat), todo.length + 1 = todo'.length + 1 ∧ Value.int .i64 ((cnt : Int) + 1) = .int .i64 (cnt' : Int) ∧ Value.int .u64 v = .int .u64 (x' : Int) ∧ f16 todo' x' = n ∧ (∀ c ∈ todo', is16 c) ∧ NZ x' todo' ∧
                cnt' + todo'.length = (h16 n).length ∧ At B b r w (todo' ++ 95 :: k) (negText neg) T0 w5 := by
            intro v w5 hv hA
            refine ⟨todo, x * 16 + d16 d, cnt + 1, rfl, by simp, by rw [hv], by rw [← f16_cons]; exact hf, fun c hc => ht c (by simp [hc]), ?_, by simp at hcnt; omega, hA⟩
            intro h0 c' l' e h48
            have hx0 : x = 0 := by omega
            have hd0 : d16 d = 0 := by omega
            have hdd : d.toNat = 48 := by unfold d16 at hd0; unfold is16 at hd; split at hd0 <;> omega
            rw [hnz hx0 d todo rfl hdd] at e
            cases e
          have FIN := Lib.hid fin
          have hcb : cnt ≤ 16 := by simp at hcnt; omega
          have hnz' : x = 0 → d.toNat = 48 → todo = [] := fun h0 h1 => hnz h0 d todo rfl h1
          have hdv : d16 d = if d.toNat ≤ 57 then d.toNat - 48 else d.toNat - 97 + 10 := rfl
          clear fin hf ht hcnt hnz
          unfold is16 at hd
          by_cases hz : x = 0 ∧ d.toNat = 48
          · as_aux_lemma =>
            obtain ⟨rfl, hz2⟩ := hz
            have htd := hnz' rfl hz2
            subst htd
            rw [if_pos (by omega)] at hdv
            have HDV := Lib.hid hdv
            clear hdv hd hnz'
            go_wp2_with fail
            refine (AR.adv d).mono ?_
            rintro e w5 ⟨rfl, A5⟩
            clear c1 AR
            have c1 := A5.c1
            try simp only [List.nil_append] at c1
            go_wp2_with fail
            go_roundg 1
            case measure => simp
            case rel => exact FIN.out _ _ (by rw [HDV.out]; simp; omega) A5
          · by_cases hx0 : x = 0
            · subst hx0
              rcases hd with ⟨hd1, hd2⟩ | ⟨hd1, hd2⟩
              · as_aux_lemma =>
                rw [if_pos hd2] at hdv
                have hx' : 0 * 16 + (d.toNat - 48) < 18446744073709551616 := by omega
                have hz' : ((d.toNat : Int) - 48 == 0) = false := by rw [beq_eq_false_iff_ne]; omega
                have HDV := Lib.hid hdv
                clear hdv hnz' hz hx
                go_wp2_with fail
                refine (AR.adv d).mono ?_
                rintro e w5 ⟨rfl, A5⟩
                go_wp2_with fail
                go_roundg (todo.length + 1)
                case measure => simp
                case rel => exact FIN.out _ _ (by rw [HDV.out]; omega) A5
              · as_aux_lemma =>
                rw [if_neg (by omega)] at hdv
                have hx' : 0 * 16 + (d.toNat - 97 + 10) < 18446744073709551616 := by omega
                have hz' : ((d.toNat : Int) - 97 + 10 == 0) = false := by rw [beq_eq_false_iff_ne]; omega
                have HDV := Lib.hid hdv
                clear hdv hnz' hz hx
                go_wp2_with fail
                refine (AR.adv d).mono ?_
                rintro e w5 ⟨rfl, A5⟩
                go_wp2_with fail
                go_roundg (todo.length + 1)
                case measure => simp
                case rel => exact FIN.out _ _ (by rw [HDV.out]; omega) A5
            · have hx00 : ((x : Int) == 0) = false := by rw [beq_eq_false_iff_ne]; omega
              clear hx0
              rcases hd with ⟨hd1, hd2⟩ | ⟨hd1, hd2⟩
              · as_aux_lemma =>
                rw [if_pos hd2] at hdv
                have hx' : x * 16 + (d.toNat - 48) < 18446744073709551616 := by omega
                have HDV := Lib.hid hdv
                clear hdv hnz' hz hx
                go_wp2_with fail
                refine (AR.adv d).mono ?_
                rintro e w5 ⟨rfl, A5⟩
                go_wp2_with fail
                go_roundg (todo.length + 1)
                case measure => simp
                case rel => exact FIN.out _ _ (by rw [HDV.out]; omega) A5
              · as_aux_lemma =>
                rw [if_neg (by omega)] at hdv
                have hx' : x * 16 + (d.toNat - 97 + 10) < 18446744073709551616 := by omega
                have HDV := Lib.hid hdv
                clear hdv hnz' hz hx
                go_wp2_with fail
                refine (AR.adv d).mono ?_
                rintro e w5 ⟨rfl, A5⟩
                go_wp2_with fail
                go_roundg (todo.length + 1)
                case measure => simp
                case rel => exact FIN.out _ _ (by rw [HDV.out]; omega) A5

end Go.Proofs.YtidokamjbglkbaaGreatDoor

