/- IdPunycode. -/
import Derived.Test.YtidokamjbglkbaaGreatDoorY23
import Derived.Test.YtidokamjbglkbaaGreatDoorY01
import Derived.Test.YtidokamjbglkbaaGreatDoorY03
import Derived.Test.YtidokamjbglkbaaGreatDoorY11
import Derived.Test.YtidokamjbglkbaaGreatDoorY21
import Derived.Test.YtidokamjbglkbaaGreatDoorShelf
import Derived.Deep.LoopGhost
namespace Go.Proofs.YtidokamjbglkbaaGreatDoor
open Go.RowKit

/-- What is known of the writer's numbers. -/
theorem SInv.bounds {L : List Nat} {base : List UInt8} {now p : Nat} {s : PS} (h : SInv L base now p s) (hn : now ≤ 1114112) (hL : L.length ≤ 60) : s.delta ≤ 67990000 ∧ s.bias ≤ 400 ∧ s.many ≤ 60 ∧ s.text.length ≤ base.length + 540 := by
  obtain ⟨e, he, hI⟩ := h
  have hl := sofar_len L now p
  have hm := hI.hmany
  have hlen := hI.hlen
  obtain ⟨i, n, _, h2, _⟩ := hI.ex
  have hc := cnt_le L now p
  have hb := hI.hbias
  have hmul : now * (s.many + 1) ≤ 1114112 * 61 := Nat.mul_le_mul hn (by omega)
  refine ⟨by omega, hb, by omega, ?_⟩
  rw [he, List.length_append]
  omega
theorem SInv.step {L : List Nat} {base : List UInt8} {now p : Nat} {s : PS} (h : SInv L base now p s) (hn : now ≤ 1114111) (hL : L.length ≤ 60) (hs : scalar now) (hp : p < L.length) : SInv L base now (p + 1) (pstep now s L[p]) := by
  obtain ⟨e, he, hI⟩ := h
  unfold pstep
  split
  · rename_i hlt; exact ⟨e, he, hI.less hp hlt⟩
  · split
    · rename_i heq
      have hd := hI.delta_le hn hL
      exact ⟨e ++ wdelta s.bias s.delta, by rw [he, List.append_assoc], hI.same hp heq hs (by omega)⟩
    · exact ⟨e, he, hI.more hp (by omega)⟩

set_option maxRecDepth 100000 in
theorem rune_text (c : Nat) (h : c < 128) : Utf8.encode (c : Int) = bs [UInt8.ofNat c] := by
  rw [← bs_of (Utf8.encode (c : Int))]
  have := enc8_low c h
  unfold enc8 at this
  rw [this]

set_option maxHeartbeats 8000000 in
set_option maxRecDepth 100000 in
theorem puny_any (g cap : Nat) (L : List Nat) (hL : L.length ≤ 60) (hsc : ∀ x ∈ L, scalar x) (w : World) (hR : RowAt w g L) :
    Calls Tryz.prog 81 #[.slice (some ⟨g, 0, none⟩) L.length cap] w fun e w' => e = .returned (.string (bs (punyOf L))) ∧ ∃ q, w' = w.drewN q := by
  have hb : ∀ x ∈ L, x ≤ 1114111 := fun x hx => by have := hsc x hx; unfold scalar at this; omega
  have HR := Lib.hid hR
  have HB := Lib.hid hb
  have HSC := Lib.hid hsc
  have HNX := Lib.hid (fun least hle q => next_any g cap L least (by omega) hb hle (w.drewN q) (hR.drewN q))
  obtain ⟨P, hP⟩ : ∃ P, punyOf L = P := ⟨_, rfl⟩
  rw [hP]
  have H0 := Lib.hid hP
  clear hP hR hb hsc
  go_enter Tryz.func81, Tryz.ntmps81
  go_wp2_with fail
  go_loopg [3, 5, 16] L.length (fun n tv _ i wr => ∃ j : Nat, n = L.length - j ∧ j ≤ L.length ∧ i = .int .i64 j ∧ tv = .string (bs (bytesOf (basicOf (L.take j)))) ∧ wr = w)
  case atStart => exact ⟨0, by omega, Nat.zero_le _, rfl, rfl, rfl⟩
  case round =>
    obtain ⟨j, rfl, hj, rfl, rfl, rfl⟩ := hrel
    by_cases hlt : j < L.length
    · have hcell := HR.out j hlt
      have hcb := HB.out _ (List.getElem_mem hlt)
      have htk := List.take_succ_eq_append_getElem hlt
      obtain ⟨c, hc⟩ : ∃ c, L[j] = c := ⟨_, rfl⟩
      rw [hc] at hcell hcb htk
      have hbl : (bytesOf (basicOf (L.take j))).length ≤ 60 := by
        have := List.length_filter_le (fun x => decide (x < 128)) (L.take j)
        simp [bytesOf, basicOf] at this ⊢; omega
      obtain ⟨acc, hacc⟩ : ∃ acc, bytesOf (basicOf (L.take j)) = acc := ⟨_, rfl⟩
      by_cases h1 : c < 128
      · have f1 : decide ((c : Int) < 128) = true := by simp; omega
        have hrt := rune_text c h1
        have e5 : bs acc ++ bs [UInt8.ofNat c] = bs (acc ++ [UInt8.ofNat c]) := bs_append _ _
        have REL := Lib.hid (show bytesOf (basicOf (L.take (j + 1))) = acc ++ [UInt8.ofNat c] by rw [htk, ← hacc]; simp [basicOf, bytesOf, h1])
        rw [hacc] at hbl ⊢
        have hl1 : ¬ 9223372036854775807 < acc.length + 1 := by omega
        clear hc htk hacc h1
        go_wp2
        go_roundg (L.length - (j + 1))
        case measure => omega
        case rel => exact ⟨j + 1, rfl, by omega, by go_num, by rw [REL.out], rfl⟩
      · have f1 : decide ((c : Int) < 128) = false := by simp; omega
        have REL := Lib.hid (show bytesOf (basicOf (L.take (j + 1))) = acc by rw [htk, ← hacc]; simp [basicOf, bytesOf, h1])
        rw [hacc]
        clear hc htk hacc h1
        go_wp2
        go_roundg (L.length - (j + 1))
        case measure => omega
        case rel => exact ⟨j + 1, rfl, by omega, by go_num, by rw [REL.out], rfl⟩
    · have hjl : j = L.length := by omega
      subst hjl
      rw [List.take_length]
      have hbl : (bytesOf (basicOf L)).length ≤ 60 := by
        have := List.length_filter_le (fun x => decide (x < 128)) L
        simp [bytesOf, basicOf] at this ⊢; omega
      have hbn : (bytesOf (basicOf L)).length = (basicOf L).length := by simp [bytesOf]
      obtain ⟨base, hbase⟩ : ∃ base, bytesOf (basicOf L) ++ (if (basicOf L).length = 0 then [] else [95]) = base := ⟨_, rfl⟩
      obtain ⟨nb, hnb⟩ : ∃ nb, (basicOf L).length = nb := ⟨_, rfl⟩
      have hinv : SInv L base 128 0 (pstart L) := ⟨[], (by rw [List.append_nil]; exact hbase), PInv.start rfl⟩
      have hps : pstart L = ⟨0, 72, nb, true, base⟩ := by unfold pstart; rw [hbase, hnb]
      rw [hps] at hinv
      have hfin : (pouter L (L.length + 1) 128 ⟨0, 72, nb, true, base⟩).text = P := by rw [← H0.out, punyOf, hps]
      have hab : above L 128 < L.length + 1 := by unfold above; have := List.length_filter_le (fun x => decide (128 ≤ x)) L; omega
      obtain ⟨acc, hacc⟩ : ∃ acc, bytesOf (basicOf L) = acc := ⟨_, rfl⟩
      rw [hacc] at hbl hbn hbase ⊢
      rw [hnb] at hbn hbase
      have hbal : base.length ≤ 61 := by
        rw [← hbase, List.length_append]
        have : (if nb = 0 then [] else [95] : List UInt8).length ≤ 1 := by split <;> simp
        omega
      have HINV := Lib.hid hinv
      have HFIN := Lib.hid hfin
      have HAB := Lib.hid hab
      have OUTER : Hid (∀ (f now : Nat) (s : PS), SInv L base now 0 s → above L now < f → (pouter L f now s).text = P → (nextOf L now = none → s.text = P) ∧ (∀ nx, nextOf L now = some nx → nx ≤ 1114111 ∧ scalar nx ∧ now ≤ nx ∧ (∃ f', f = f' + 1 ∧ (pouter L f' (nx + 1) (pround nx L (s.go now nx)).up).text = P ∧ above L (nx + 1) < f') ∧ SInv L base nx 0 (s.go now nx))) := Lib.hid (by
        intro f now s hI ha ht
        cases f with
        | zero => omega
        | succ f =>
          unfold pouter at ht
          refine ⟨fun h => ?_, fun nx h => ?_⟩
          · rw [h] at ht; exact ht
          · rw [h] at ht
            obtain ⟨h1, h2, _⟩ := nextF_some h
            have hmem : nx ∈ L ∧ now ≤ nx := by
              rcases h1 with h1 | h1
              · cases h1
              · exact h1
            have hno : ∀ x ∈ L, x < nx → x < now := by
              intro x hx hlt
              rcases Nat.lt_or_ge x now with h | h
              · exact h
              · have := h2 x hx h; omega
            obtain ⟨e, he, hI⟩ := hI
            exact ⟨HB.out nx hmem.1, HSC.out nx hmem.1, hmem.2, ⟨f, rfl, ht, by have := above_lt hmem.1 hmem.2; omega⟩, ⟨e, he, hI.next nx hmem.2 hno⟩⟩)
      have f0 := HNX.out 128 (by omega) 0
      have F0 := Lib.hid f0
      clear hinv hfin hab hps hacc f0
      by_cases hz : nb = 0
      · rw [if_pos hz, List.append_nil] at hbase
        have HTX := Lib.hid (show bs acc = bs base by rw [hbase])
        have hz' : decide ((0 : Int) < (nb : Int)) = false := decide_eq_false (by omega)
        have hz2 : ¬ 0 < nb := by omega
        clear hbase hz
        go_wp2_with (go_at_call 96; refine (F0.out).mono ?_; rintro e w1 ⟨rfl, rfl⟩)
        go_loopg [3, 6, 7, 8, 9, 10, 11, 13, 53] (L.length + 1) (fun f tv mv fv nv dv bv xv _ _ wx => ∃ (now : Nat) (s : PS), tv = .string (bs s.text) ∧ mv = .int .i64 s.many ∧ fv = .bool s.first ∧ nv = .int .i64 now ∧ dv = .int .i64 s.delta ∧ bv = .int .i64 s.bias ∧
          xv = .int .i64 (nextZ (nextOf L now)) ∧ SInv L base now 0 s ∧ above L now < f ∧ (pouter L f now s).text = P ∧ now ≤ 1114112 ∧ ∃ q, wx = wr.drewN q)
        case atStart => exact ⟨128, ⟨0, 72, nb, true, base⟩, by rw [← HTX.out], rfl, rfl, rfl, rfl, rfl, rfl, HINV.out, HAB.out, HFIN.out, by omega, 0, rfl⟩
        case round =>
          obtain ⟨now, s, rfl, rfl, rfl, rfl, rfl, rfl, rfl, hI, ha, ht, hnw, q, rfl⟩ := hrel
          obtain ⟨o1, o2⟩ := OUTER.out _ now s hI ha ht
          obtain ⟨b1, b2, b3, b4⟩ := hI.bounds hnw hL
          cases hnx : nextOf L now with
          | none =>
            have HT := Lib.hid (o1 hnx)
            have f1 : nextZ none = -1 := rfl
            rw [f1]
            clear o1 o2 hI ha ht hnx
            go_wp2
            go_ret
            exact ⟨by rw [← HT.out]; rfl, q, rfl⟩
          | some nx =>
            obtain ⟨n1, n2, n3, ⟨f', rfl, n4, n5⟩, n6⟩ := o2 nx hnx
            have f1 : nextZ (some nx) = (nx : Int) := rfl
            rw [f1]
            obtain ⟨d, m, fst, bi, tx, rfl⟩ : ∃ d m fst bi tx, s = ⟨d, bi, m, fst, tx⟩ := ⟨s.delta, s.many, s.first, s.bias, s.text, rfl⟩
            simp only at b1 b2 b3 b4
            have hmul : (nx - now) * (m + 1) ≤ 1114111 * 61 := Nat.mul_le_mul (by omega) (by omega)
            have e1 : ((nx : Int) - (now : Int)) * ((m : Int) + 1) = (((nx - now) * (m + 1) : Nat) : Int) := by rw [Int.natCast_mul, Int.natCast_sub n3]; simp
            have e0 : (nx : Int) - (now : Int) = ((nx - now : Nat) : Int) := by omega
            obtain ⟨z, hz⟩ : ∃ z, (nx - now) * (m + 1) = z := ⟨_, rfl⟩
            rw [hz] at e1 hmul
            have hgo : PS.go ⟨d, bi, m, fst, tx⟩ now nx = ⟨d + z, bi, m, fst, tx⟩ := by rw [← hz]; rfl
            rw [hgo] at n4 n6
            have N4 := Lib.hid n4
            have N5 := Lib.hid n5
            have N6 := Lib.hid n6
            have N2 := Lib.hid n2
            clear o1 o2 hI ha ht hnx hz hgo n4 n5 n6 n2 e0 f1
            go_wp2_with fail
            go_loopg [3, 6, 7, 9, 10, 13, 53] L.length (fun n tv mv fv dv bv _ i wx => ∃ (j : Nat) (s : PS), n = L.length - j ∧ j ≤ L.length ∧ i = .int .i64 j ∧ tv = .string (bs s.text) ∧ mv = .int .i64 s.many ∧ fv = .bool s.first ∧ dv = .int .i64 s.delta ∧ bv = .int .i64 s.bias ∧
              pround nx (L.take j) ⟨d + z, bi, m, fst, tx⟩ = s ∧ SInv L base nx j s ∧ ∃ q, wx = wr.drewN q)
            case atStart => exact ⟨0, ⟨d + z, bi, m, fst, tx⟩, by omega, Nat.zero_le _, rfl, rfl, rfl, rfl, by go_num, rfl, rfl, N6.out, q, rfl⟩
            case round =>
              obtain ⟨j, s, rfl, hj, rfl, rfl, rfl, rfl, rfl, rfl, hpr, hI, q, rfl⟩ := hrel
              obtain ⟨b1, b2, b3, b4⟩ := hI.bounds (by omega) hL
              by_cases hlt : j < L.length
              · have hcell : (wr.drewN q).cell? ⟨g, j, none⟩ = _ := HR.out j hlt
                have hst := hI.step n1 hL N2.out hlt
                have hpr2 : pround nx (L.take (j + 1)) ⟨d + z, bi, m, fst, tx⟩ = pstep nx s L[j] := by rw [List.take_succ_eq_append_getElem hlt, pround, List.foldl_append, ← hpr]; rfl
                obtain ⟨c, hc⟩ : ∃ c, L[j] = c := ⟨_, rfl⟩
                rw [hc] at hcell hst hpr2
                obtain ⟨d2, m2, fst2, bi2, tx2, rfl⟩ : ∃ d m fst bi tx, s = ⟨d, bi, m, fst, tx⟩ := ⟨s.delta, s.many, s.first, s.bias, s.text, rfl⟩
                simp only at b1 b2 b3 b4
                clear hI hpr hc
                by_cases h1 : c < nx
                · have f1 : decide ((c : Int) < (nx : Int)) = true := by simp; omega
                  have f2 : ((c : Int) == (nx : Int)) = false := by rw [beq_eq_false_iff_ne]; omega
                  have f3 : (c == nx) = false := by rw [beq_eq_false_iff_ne]; omega
                  have hs2 : pstep nx ⟨d2, bi2, m2, fst2, tx2⟩ c = ⟨d2 + 1, bi2, m2, fst2, tx2⟩ := by simp [pstep, h1]
                  rw [hs2] at hst hpr2
                  have HST := Lib.hid hst
                  have HPR := Lib.hid hpr2
                  clear hs2 hst hpr2
                  go_wp2
                  go_roundg (L.length - (j + 1))
                  case measure => omega
                  case rel => exact ⟨j + 1, ⟨d2 + 1, bi2, m2, fst2, tx2⟩, rfl, by omega, by go_num, rfl, rfl, rfl, by go_num, rfl, HPR.out, HST.out, q, rfl⟩
                · have f1 : decide ((c : Int) < (nx : Int)) = false := by simp; omega
                  by_cases h2 : c = nx
                  · have f2 : ((c : Int) == (nx : Int)) = true := by rw [h2]; simp
                    have f3 : (c == nx) = true := by rw [h2]; simp
                    have hs2 : pstep nx ⟨d2, bi2, m2, fst2, tx2⟩ c = ⟨0, adapt d2 (m2 + 1) fst2, m2 + 1, false, tx2 ++ wdelta bi2 d2⟩ := by simp [pstep, h2]
                    rw [hs2] at hst hpr2
                    have HST := Lib.hid hst
                    have HPR := Lib.hid hpr2
                    have HDL := Lib.hid (fun w => delta_any d2 bi2 (by omega) (by omega) w)
                    have HAD := Lib.hid (fun w => adapt_any d2 (m2 + 1) fst2 (by omega) ⟨by omega, by omega⟩ w)
                    have hwl := wdelta_len bi2 d2 (by omega)
                    obtain ⟨wd, hwd⟩ : ∃ wd, wdelta bi2 d2 = wd := ⟨_, rfl⟩
                    obtain ⟨ad, had⟩ : ∃ ad, adapt d2 (m2 + 1) fst2 = ad := ⟨_, rfl⟩
                    rw [hwd] at hwl HDL HST HPR
                    rw [had] at HAD HST HPR
                    have e5 : bs tx2 ++ bs wd = bs (tx2 ++ wd) := bs_append _ _
                    have hl1 : ¬ 9223372036854775807 < tx2.length + wd.length := by omega
                    clear hs2 hst hpr2 h2 hwd had
                    go_wp2_with (first
                      | (go_at_call 97; refine (HDL.out _).mono ?_; rintro e w1 ⟨rfl, q2, rfl⟩)
                      | (go_at_call 98; refine (HAD.out _).mono ?_; rintro e w1 ⟨rfl, rfl⟩))
                    go_roundg (L.length - (j + 1))
                    case measure => omega
                    case rel => exact ⟨j + 1, ⟨0, ad, m2 + 1, false, tx2 ++ wd⟩, rfl, by omega, by go_num, by rw [← e5], by go_num, rfl, rfl, rfl, HPR.out, HST.out, _, rfl⟩
                  · have f2 : ((c : Int) == (nx : Int)) = false := by rw [beq_eq_false_iff_ne]; omega
                    have f3 : (c == nx) = false := by rw [beq_eq_false_iff_ne]; omega
                    have hs2 : pstep nx ⟨d2, bi2, m2, fst2, tx2⟩ c = ⟨d2, bi2, m2, fst2, tx2⟩ := by simp [pstep, h1, h2]
                    rw [hs2] at hst hpr2
                    have HST := Lib.hid hst
                    have HPR := Lib.hid hpr2
                    clear hs2 hst hpr2
                    go_wp2
                    go_roundg (L.length - (j + 1))
                    case measure => omega
                    case rel => exact ⟨j + 1, ⟨d2, bi2, m2, fst2, tx2⟩, rfl, by omega, by go_num, rfl, rfl, rfl, rfl, rfl, HPR.out, HST.out, q, rfl⟩
              · have hjl : j = L.length := by omega
                subst hjl
                rw [List.take_length] at hpr
                have hI2 : SInv L base (nx + 1) 0 s.up := by obtain ⟨e2, he2, hI2⟩ := hI; exact ⟨e2, he2, hI2.over rfl⟩
                have hfin2 : (pouter L f' (nx + 1) s.up).text = P := by rw [← hpr]; exact N4.out
                obtain ⟨d2, m2, fst2, bi2, tx2, rfl⟩ : ∃ d m fst bi tx, s = ⟨d, bi, m, fst, tx⟩ := ⟨s.delta, s.many, s.first, s.bias, s.text, rfl⟩
                simp only at b1 b2 b3 b4
                have HI2 := Lib.hid hI2
                have HF2 := Lib.hid hfin2
                clear hI hpr hI2 hfin2
                go_wp2_with (go_at_call 96; refine (HNX.out (nx + 1) (by omega) q).mono ?_; rintro e w1 ⟨rfl, rfl⟩)
                go_roundg f'
                case measure => omega
                case rel => exact ⟨nx + 1, ⟨d2 + 1, bi2, m2, fst2, tx2⟩, rfl, rfl, rfl, by go_num, by go_num, rfl, rfl, HI2.out, N5.out, HF2.out, by omega, q, rfl⟩
      · rw [if_neg hz] at hbase
        have HTX := Lib.hid (show bs (acc ++ [95]) = bs base by rw [hbase])
        have e5 : bs acc ++ (⟨#[95]⟩ : ByteArray) = bs (acc ++ [95]) := bs_append _ [95]
        have hz' : decide ((0 : Int) < (nb : Int)) = true := decide_eq_true (by omega)
        have hz2 : 0 < nb := by omega
        have hl1 : ¬ 9223372036854775807 < acc.length + 1 := by omega
        clear hbase hz
        go_wp2_with (go_at_call 96; refine (F0.out).mono ?_; rintro e w1 ⟨rfl, rfl⟩)
        go_loopg [3, 6, 7, 8, 9, 10, 11, 13, 53] (L.length + 1) (fun f tv mv fv nv dv bv xv _ _ wx => ∃ (now : Nat) (s : PS), tv = .string (bs s.text) ∧ mv = .int .i64 s.many ∧ fv = .bool s.first ∧ nv = .int .i64 now ∧ dv = .int .i64 s.delta ∧ bv = .int .i64 s.bias ∧
          xv = .int .i64 (nextZ (nextOf L now)) ∧ SInv L base now 0 s ∧ above L now < f ∧ (pouter L f now s).text = P ∧ now ≤ 1114112 ∧ ∃ q, wx = wr.drewN q)
        case atStart => exact ⟨128, ⟨0, 72, nb, true, base⟩, by rw [← HTX.out, ← e5], rfl, rfl, rfl, rfl, rfl, rfl, HINV.out, HAB.out, HFIN.out, by omega, 0, rfl⟩
        case round =>
          obtain ⟨now, s, rfl, rfl, rfl, rfl, rfl, rfl, rfl, hI, ha, ht, hnw, q, rfl⟩ := hrel
          obtain ⟨o1, o2⟩ := OUTER.out _ now s hI ha ht
          obtain ⟨b1, b2, b3, b4⟩ := hI.bounds hnw hL
          cases hnx : nextOf L now with
          | none =>
            have HT := Lib.hid (o1 hnx)
            have f1 : nextZ none = -1 := rfl
            rw [f1]
            clear o1 o2 hI ha ht hnx
            go_wp2
            go_ret
            exact ⟨by rw [← HT.out]; rfl, q, rfl⟩
          | some nx =>
            obtain ⟨n1, n2, n3, ⟨f', rfl, n4, n5⟩, n6⟩ := o2 nx hnx
            have f1 : nextZ (some nx) = (nx : Int) := rfl
            rw [f1]
            obtain ⟨d, m, fst, bi, tx, rfl⟩ : ∃ d m fst bi tx, s = ⟨d, bi, m, fst, tx⟩ := ⟨s.delta, s.many, s.first, s.bias, s.text, rfl⟩
            simp only at b1 b2 b3 b4
            have hmul : (nx - now) * (m + 1) ≤ 1114111 * 61 := Nat.mul_le_mul (by omega) (by omega)
            have e1 : ((nx : Int) - (now : Int)) * ((m : Int) + 1) = (((nx - now) * (m + 1) : Nat) : Int) := by rw [Int.natCast_mul, Int.natCast_sub n3]; simp
            have e0 : (nx : Int) - (now : Int) = ((nx - now : Nat) : Int) := by omega
            obtain ⟨z, hz⟩ : ∃ z, (nx - now) * (m + 1) = z := ⟨_, rfl⟩
            rw [hz] at e1 hmul
            have hgo : PS.go ⟨d, bi, m, fst, tx⟩ now nx = ⟨d + z, bi, m, fst, tx⟩ := by rw [← hz]; rfl
            rw [hgo] at n4 n6
            have N4 := Lib.hid n4
            have N5 := Lib.hid n5
            have N6 := Lib.hid n6
            have N2 := Lib.hid n2
            clear o1 o2 hI ha ht hnx hz hgo n4 n5 n6 n2 e0 f1
            go_wp2_with fail
            go_loopg [3, 6, 7, 9, 10, 13, 53] L.length (fun n tv mv fv dv bv _ i wx => ∃ (j : Nat) (s : PS), n = L.length - j ∧ j ≤ L.length ∧ i = .int .i64 j ∧ tv = .string (bs s.text) ∧ mv = .int .i64 s.many ∧ fv = .bool s.first ∧ dv = .int .i64 s.delta ∧ bv = .int .i64 s.bias ∧
              pround nx (L.take j) ⟨d + z, bi, m, fst, tx⟩ = s ∧ SInv L base nx j s ∧ ∃ q, wx = wr.drewN q)
            case atStart => exact ⟨0, ⟨d + z, bi, m, fst, tx⟩, by omega, Nat.zero_le _, rfl, rfl, rfl, rfl, by go_num, rfl, rfl, N6.out, q, rfl⟩
            case round =>
              obtain ⟨j, s, rfl, hj, rfl, rfl, rfl, rfl, rfl, rfl, hpr, hI, q, rfl⟩ := hrel
              obtain ⟨b1, b2, b3, b4⟩ := hI.bounds (by omega) hL
              by_cases hlt : j < L.length
              · have hcell : (wr.drewN q).cell? ⟨g, j, none⟩ = _ := HR.out j hlt
                have hst := hI.step n1 hL N2.out hlt
                have hpr2 : pround nx (L.take (j + 1)) ⟨d + z, bi, m, fst, tx⟩ = pstep nx s L[j] := by rw [List.take_succ_eq_append_getElem hlt, pround, List.foldl_append, ← hpr]; rfl
                obtain ⟨c, hc⟩ : ∃ c, L[j] = c := ⟨_, rfl⟩
                rw [hc] at hcell hst hpr2
                obtain ⟨d2, m2, fst2, bi2, tx2, rfl⟩ : ∃ d m fst bi tx, s = ⟨d, bi, m, fst, tx⟩ := ⟨s.delta, s.many, s.first, s.bias, s.text, rfl⟩
                simp only at b1 b2 b3 b4
                clear hI hpr hc
                by_cases h1 : c < nx
                · have f1 : decide ((c : Int) < (nx : Int)) = true := by simp; omega
                  have f2 : ((c : Int) == (nx : Int)) = false := by rw [beq_eq_false_iff_ne]; omega
                  have f3 : (c == nx) = false := by rw [beq_eq_false_iff_ne]; omega
                  have hs2 : pstep nx ⟨d2, bi2, m2, fst2, tx2⟩ c = ⟨d2 + 1, bi2, m2, fst2, tx2⟩ := by simp [pstep, h1]
                  rw [hs2] at hst hpr2
                  have HST := Lib.hid hst
                  have HPR := Lib.hid hpr2
                  clear hs2 hst hpr2
                  go_wp2
                  go_roundg (L.length - (j + 1))
                  case measure => omega
                  case rel => exact ⟨j + 1, ⟨d2 + 1, bi2, m2, fst2, tx2⟩, rfl, by omega, by go_num, rfl, rfl, rfl, by go_num, rfl, HPR.out, HST.out, q, rfl⟩
                · have f1 : decide ((c : Int) < (nx : Int)) = false := by simp; omega
                  by_cases h2 : c = nx
                  · have f2 : ((c : Int) == (nx : Int)) = true := by rw [h2]; simp
                    have f3 : (c == nx) = true := by rw [h2]; simp
                    have hs2 : pstep nx ⟨d2, bi2, m2, fst2, tx2⟩ c = ⟨0, adapt d2 (m2 + 1) fst2, m2 + 1, false, tx2 ++ wdelta bi2 d2⟩ := by simp [pstep, h2]
                    rw [hs2] at hst hpr2
                    have HST := Lib.hid hst
                    have HPR := Lib.hid hpr2
                    have HDL := Lib.hid (fun w => delta_any d2 bi2 (by omega) (by omega) w)
                    have HAD := Lib.hid (fun w => adapt_any d2 (m2 + 1) fst2 (by omega) ⟨by omega, by omega⟩ w)
                    have hwl := wdelta_len bi2 d2 (by omega)
                    obtain ⟨wd, hwd⟩ : ∃ wd, wdelta bi2 d2 = wd := ⟨_, rfl⟩
                    obtain ⟨ad, had⟩ : ∃ ad, adapt d2 (m2 + 1) fst2 = ad := ⟨_, rfl⟩
                    rw [hwd] at hwl HDL HST HPR
                    rw [had] at HAD HST HPR
                    have e5 : bs tx2 ++ bs wd = bs (tx2 ++ wd) := bs_append _ _
                    have hl1 : ¬ 9223372036854775807 < tx2.length + wd.length := by omega
                    clear hs2 hst hpr2 h2 hwd had
                    go_wp2_with (first
                      | (go_at_call 97; refine (HDL.out _).mono ?_; rintro e w1 ⟨rfl, q2, rfl⟩)
                      | (go_at_call 98; refine (HAD.out _).mono ?_; rintro e w1 ⟨rfl, rfl⟩))
                    go_roundg (L.length - (j + 1))
                    case measure => omega
                    case rel => exact ⟨j + 1, ⟨0, ad, m2 + 1, false, tx2 ++ wd⟩, rfl, by omega, by go_num, by rw [← e5], by go_num, rfl, rfl, rfl, HPR.out, HST.out, _, rfl⟩
                  · have f2 : ((c : Int) == (nx : Int)) = false := by rw [beq_eq_false_iff_ne]; omega
                    have f3 : (c == nx) = false := by rw [beq_eq_false_iff_ne]; omega
                    have hs2 : pstep nx ⟨d2, bi2, m2, fst2, tx2⟩ c = ⟨d2, bi2, m2, fst2, tx2⟩ := by simp [pstep, h1, h2]
                    rw [hs2] at hst hpr2
                    have HST := Lib.hid hst
                    have HPR := Lib.hid hpr2
                    clear hs2 hst hpr2
                    go_wp2
                    go_roundg (L.length - (j + 1))
                    case measure => omega
                    case rel => exact ⟨j + 1, ⟨d2, bi2, m2, fst2, tx2⟩, rfl, by omega, by go_num, rfl, rfl, rfl, rfl, rfl, HPR.out, HST.out, q, rfl⟩
              · have hjl : j = L.length := by omega
                subst hjl
                rw [List.take_length] at hpr
                have hI2 : SInv L base (nx + 1) 0 s.up := by obtain ⟨e2, he2, hI2⟩ := hI; exact ⟨e2, he2, hI2.over rfl⟩
                have hfin2 : (pouter L f' (nx + 1) s.up).text = P := by rw [← hpr]; exact N4.out
                obtain ⟨d2, m2, fst2, bi2, tx2, rfl⟩ : ∃ d m fst bi tx, s = ⟨d, bi, m, fst, tx⟩ := ⟨s.delta, s.many, s.first, s.bias, s.text, rfl⟩
                simp only at b1 b2 b3 b4
                have HI2 := Lib.hid hI2
                have HF2 := Lib.hid hfin2
                clear hI hpr hI2 hfin2
                go_wp2_with (go_at_call 96; refine (HNX.out (nx + 1) (by omega) q).mono ?_; rintro e w1 ⟨rfl, rfl⟩)
                go_roundg f'
                case measure => omega
                case rel => exact ⟨nx + 1, ⟨d2 + 1, bi2, m2, fst2, tx2⟩, rfl, rfl, rfl, by go_num, by go_num, rfl, rfl, HI2.out, N5.out, HF2.out, by omega, q, rfl⟩
end Go.Proofs.YtidokamjbglkbaaGreatDoor

/- IdIsPlain, idCounted. -/
namespace Go.Proofs.YtidokamjbglkbaaGreatDoor
open Go.RowKit

/-- Where a byte stands. -/
theorem byte_class (n : Nat) : n ≤ 47 ∨ (48 ≤ n ∧ n ≤ 57) ∨ (58 ≤ n ∧ n ≤ 64) ∨ (65 ≤ n ∧ n ≤ 90) ∨ (91 ≤ n ∧ n ≤ 94) ∨ n = 95 ∨ n = 96 ∨ (97 ≤ n ∧ n ≤ 122) ∨ 123 ≤ n := by omega

theorem isDigit_any (n : Nat) (w : World) : Calls Tryz.prog 93 #[.int .u8 n] w fun e w' => e = .returned (.bool (decide (48 ≤ n) && decide (n ≤ 57))) ∧ w = w' := by
  by_cases h : 48 ≤ n
  · have e1 : decide ((48 : Int) ≤ (n : Int)) = true := by simp; omega
    have e2 : decide ((n : Int) ≤ 57) = (decide (48 ≤ n) && decide (n ≤ 57)) := by rw [Bool.eq_iff_iff]; simp; omega
    have HE := Lib.hid e2
    clear e2 h
    go_enter Tryz.func93, Tryz.ntmps93
    go_wp2
    go_ret
    exact ⟨by rw [← HE.out]; rfl, rfl⟩
  · have e1 : decide ((48 : Int) ≤ (n : Int)) = false := by simp; omega
    have e2 : false = (decide (48 ≤ n) && decide (n ≤ 57)) := by simp [h]
    have HE := Lib.hid e2
    clear e2 h
    go_enter Tryz.func93, Tryz.ntmps93
    go_wp2
    go_ret
    exact ⟨by rw [← HE.out]; rfl, rfl⟩

set_option maxHeartbeats 1000000 in
theorem isLetter_any (n : Nat) (w : World) : Calls Tryz.prog 94 #[.int .u8 n] w fun e w' => e = .returned (.bool ((decide (65 ≤ n) && decide (n ≤ 90)) || (decide (97 ≤ n) && decide (n ≤ 122)))) ∧ w = w' := by
  obtain ⟨v, hv⟩ : ∃ v, ((decide (65 ≤ n) && decide (n ≤ 90)) || (decide (97 ≤ n) && decide (n ≤ 122))) = v := ⟨_, rfl⟩
  rw [hv]
  have hc : n ≤ 64 ∨ (65 ≤ n ∧ n ≤ 90) ∨ (91 ≤ n ∧ n ≤ 96) ∨ (97 ≤ n ∧ n ≤ 122) ∨ 123 ≤ n := by omega
  rcases hc with h | h | h | h | h
  all_goals
    first
      | have F1 : decide ((65 : Int) ≤ (n : Int)) = true := decide_eq_true (by omega)
      | have F1 : decide ((65 : Int) ≤ (n : Int)) = false := decide_eq_false (by omega)
    first
      | have F2 : decide ((n : Int) ≤ 90) = true := decide_eq_true (by omega)
      | have F2 : decide ((n : Int) ≤ 90) = false := decide_eq_false (by omega)
    first
      | have F3 : decide ((97 : Int) ≤ (n : Int)) = true := decide_eq_true (by omega)
      | have F3 : decide ((97 : Int) ≤ (n : Int)) = false := decide_eq_false (by omega)
    first
      | have F4 : decide ((n : Int) ≤ 122) = true := decide_eq_true (by omega)
      | have F4 : decide ((n : Int) ≤ 122) = false := decide_eq_false (by omega)
    first
      | have hv1 : v = true := by rw [← hv]; simp; omega
      | have hv1 : v = false := by rw [← hv]; simp; omega
    subst hv1
    clear h hv
    go_enter Tryz.func94, Tryz.ntmps94
    go_wp2
    go_ret
    exact ⟨rfl, rfl⟩

set_option maxHeartbeats 4000000 in
set_option maxRecDepth 100000 in
theorem idPlain_any (l : List UInt8) (hl : l.length ≤ 4611686018427387904) (w : World) : Calls Tryz.prog 79 #[.string (bs l)] w fun e w' => e = .returned (.bool (l.all isIdB)) ∧ w = w' := by
  have HD := Lib.hid (fun n w => isDigit_any n w)
  have HE := Lib.hid (fun n w => isLetter_any n w)
  obtain ⟨v, hv⟩ : ∃ v, l.all isIdB = v := ⟨_, rfl⟩
  rw [hv]
  have HV := Lib.hid hv
  clear hv
  go_enter Tryz.func79, Tryz.ntmps79
  go_wp2_with fail
  go_loopg [3, 6] l.length (fun n _ i wr => ∃ j : Nat, n = l.length - j ∧ j ≤ l.length ∧ i = .int .i64 j ∧ (∀ c ∈ l.take j, isIdB c = true) ∧ wr = w)
  case atStart => exact ⟨0, by omega, Nat.zero_le _, rfl, by simp, rfl⟩
  case round =>
    obtain ⟨j, rfl, hj, rfl, hq, rfl⟩ := hrel
    have HQ := Lib.hid hq
    clear hq
    by_cases hlt : j < l.length
    · obtain ⟨c, hc⟩ : ∃ c, l[j] = c := ⟨_, rfl⟩
      have hin : c ∈ l := by rw [← hc]; exact List.getElem_mem hlt
      have REL : isIdB c = true → ∀ x ∈ l.take (j + 1), isIdB x = true := by
        intro hok x hx
        rw [List.take_succ_eq_append_getElem hlt] at hx
        rcases List.mem_append.1 hx with hx | hx
        · exact HQ.out x hx
        · simp at hx; subst hx; rw [hc]; exact hok
      have BAD : isIdB c = false → v = false := fun h => by rw [← HV.out]; exact List.all_eq_false.2 ⟨c, hin, by simp [h]⟩
      have hlt' : j < (bs l).size := by simpa using hlt
      clear HQ hin
      by_cases c1 : 48 ≤ c.toNat ∧ c.toNat ≤ 57
      · have f1 : (decide (48 ≤ c.toNat) && decide (c.toNat ≤ 57)) = true := by simp [c1]
        have f3 : True := trivial
        have HR := Lib.hid (REL (by simp [isIdB, c1]))
        clear REL BAD c1
        go_wp2_with (first
          | (go_at_call 93; refine (HD.out c.toNat _).mono ?_; rintro e w1 ⟨rfl, rfl⟩; rw [f1])
          | (go_at_call 94; refine (HE.out c.toNat _).mono ?_; rintro e w1 ⟨rfl, rfl⟩))
        go_roundg (l.length - (j + 1))
        case measure => omega
        case rel => exact ⟨j + 1, rfl, by omega, by go_num, HR.out, rfl⟩
      · have f1 : (decide (48 ≤ c.toNat) && decide (c.toNat ≤ 57)) = false := by simp; omega
        by_cases c2 : c.toNat = 95
        · have f2 : ((c.toNat : Int) != 95) = false := by rw [c2]; rfl
          have f3 : True := trivial
          have HR := Lib.hid (REL (by simp [isIdB, c2]))
          clear REL BAD c1 c2
          go_wp2_with (first
            | (go_at_call 93; refine (HD.out c.toNat _).mono ?_; rintro e w1 ⟨rfl, rfl⟩; rw [f1])
            | (go_at_call 94; refine (HE.out c.toNat _).mono ?_; rintro e w1 ⟨rfl, rfl⟩))
          go_roundg (l.length - (j + 1))
          case measure => omega
          case rel => exact ⟨j + 1, rfl, by omega, by go_num, HR.out, rfl⟩
        · have f2 : ((c.toNat : Int) != 95) = true := by rw [bne_iff_ne]; omega
          by_cases c3 : (65 ≤ c.toNat ∧ c.toNat ≤ 90) ∨ (97 ≤ c.toNat ∧ c.toNat ≤ 122)
          · have f3 : ((decide (65 ≤ c.toNat) && decide (c.toNat ≤ 90)) || (decide (97 ≤ c.toNat) && decide (c.toNat ≤ 122))) = true := by simp; omega
            have HR := Lib.hid (REL (by rw [isIdB_iff]; unfold isId is10; omega))
            clear REL BAD c1 c2 c3
            go_wp2_with (first
              | (go_at_call 93; refine (HD.out c.toNat _).mono ?_; rintro e w1 ⟨rfl, rfl⟩; rw [f1])
              | (go_at_call 94; refine (HE.out c.toNat _).mono ?_; rintro e w1 ⟨rfl, rfl⟩; rw [f3]))
            go_roundg (l.length - (j + 1))
            case measure => omega
            case rel => exact ⟨j + 1, rfl, by omega, by go_num, HR.out, rfl⟩
          · have f3 : ((decide (65 ≤ c.toNat) && decide (c.toNat ≤ 90)) || (decide (97 ≤ c.toNat) && decide (c.toNat ≤ 122))) = false := by simp; omega
            have hv := BAD (by rw [Bool.eq_false_iff]; intro h; rw [isIdB_iff] at h; unfold isId is10 at h; omega)
            subst hv
            clear REL BAD c1 c2 c3
            go_wp2_with (first
              | (go_at_call 93; refine (HD.out c.toNat _).mono ?_; rintro e w1 ⟨rfl, rfl⟩; rw [f1])
              | (go_at_call 94; refine (HE.out c.toNat _).mono ?_; rintro e w1 ⟨rfl, rfl⟩; rw [f3]))
            go_ret
            exact ⟨rfl, rfl⟩
    · have hjl : j = l.length := by omega
      subst hjl
      have hq := HQ.out
      rw [List.take_length] at hq
      have hv : v = true := by rw [← HV.out]; exact List.all_eq_true.2 hq
      subst hv
      clear hq
      go_wp2_with fail
      go_ret
      exact ⟨rfl, rfl⟩
end Go.Proofs.YtidokamjbglkbaaGreatDoor

/- idCounted. -/
namespace Go.Proofs.YtidokamjbglkbaaGreatDoor
open Go.RowKit

theorem itoa_any (n : Nat) (hn : n ≤ 1000000000000) (B : Nat) (w : World) (hT : Tabs B w) : Calls Tryz.prog 95 #[.int .i64 n] w fun e w' => e = .returned (.string (bs (Lib.decDigits n))) ∧ Below w.heap.size w w' := by
  refine (Tryz.strconv_Itoa n (by omega) (by omega) w hT.pow10).mono ?_
  rintro e w' ⟨rfl, k, os, rfl⟩
  rw [Lib.itoa_nonneg]
  refine ⟨rfl, ?_⟩
  have := kept_grow (B := w.heap.size) w k os
  exact ⟨this.os, this.tape, this.output, this.size, fun i hi => this.block i hi (.inl hi)⟩

set_option maxHeartbeats 4000000 in
set_option maxRecDepth 100000 in
theorem counted_any (l : List UInt8) (hl : l.length ≤ 1000000000) (B : Nat) (w : World) (hT : Tabs B w) : Calls Tryz.prog 80 #[.string (bs l)] w fun e w' => e = .returned (.string (bs (counted' l))) ∧ Below w.heap.size w w' := by
  have HI := Lib.hid (fun w hT => itoa_any l.length (by omega) B w hT)
  have HT := Lib.hid hT
  have hd := decDigits_le 19 l.length (by omega)
  obtain ⟨d, hdd⟩ : ∃ d, Lib.decDigits l.length = d := ⟨_, rfl⟩
  rw [hdd] at HI hd
  clear hT
  cases l with
  | nil =>
    have ht0 : (bs []).toList.isEmpty = true := by rw [ByteArray.toList_eq]; rfl
    have e2 : bs d ++ (⟨#[]⟩ : ByteArray) ++ bs [] = bs (counted' []) := by rw [show (⟨#[]⟩ : ByteArray) = bs [] from rfl, bs_append, bs_append, counted', hdd]; simp [startsDU]
    have HE := Lib.hid e2
    have hl1 : ¬ 9223372036854775807 < d.length + 0 := by omega
    clear e2 hdd
    go_enter Tryz.func80, Tryz.ntmps80
    go_wp2_with (go_at_call 95; refine (HI.out _ HT.out).mono ?_; rintro e w1 ⟨rfl, b1⟩)
    go_ret
    exact ⟨congrArg (fun b => Ending.returned (.string b)) HE.out, b1⟩
  | cons c l =>
    have ht0 : (bs (c :: l)).toList.isEmpty = false := by rw [ByteArray.toList_eq]; rfl
    have HD := Lib.hid (fun n w => isDigit_any n w)
    have e2 : ∀ s : List UInt8, (if startsDU (c :: l) then [95] else []) = s → bs d ++ bs s ++ bs (c :: l) = bs (counted' (c :: l)) := by
      intro s hs
      rw [bs_append, bs_append, counted', hdd, hs]; simp
    have hll : l.length ≤ 1000000000 := by simp at hl; omega
    by_cases c1 : 48 ≤ c.toNat ∧ c.toNat ≤ 57
    · have f1 : (decide (48 ≤ c.toNat) && decide (c.toNat ≤ 57)) = true := by simp [c1]
      have HE := Lib.hid (e2 [95] (by simp [startsDU, c1]))
      clear e2 c1 hdd
      go_enter Tryz.func80, Tryz.ntmps80
      go_wp2_with (first
        | (go_at_call 93; refine (HD.out c.toNat _).mono ?_; rintro e w1 ⟨rfl, rfl⟩; rw [f1])
        | (go_at_call 95; refine (HI.out _ HT.out).mono ?_; rintro e w1 ⟨rfl, b1⟩))
      go_ret
      exact ⟨congrArg (fun b => Ending.returned (.string b)) HE.out, b1⟩
    · have f1 : (decide (48 ≤ c.toNat) && decide (c.toNat ≤ 57)) = false := by simp; omega
      by_cases c2 : c.toNat = 95
      · have f2 : ((c.toNat : Int) == 95) = true := by rw [c2]; rfl
        have HE := Lib.hid (e2 [95] (by simp [startsDU, c2]))
        clear e2 c1 c2 hdd
        go_enter Tryz.func80, Tryz.ntmps80
        go_wp2_with (first
          | (go_at_call 93; refine (HD.out c.toNat _).mono ?_; rintro e w1 ⟨rfl, rfl⟩; rw [f1])
          | (go_at_call 95; refine (HI.out _ HT.out).mono ?_; rintro e w1 ⟨rfl, b1⟩))
        go_ret
        exact ⟨congrArg (fun b => Ending.returned (.string b)) HE.out, b1⟩
      · have f2 : ((c.toNat : Int) == 95) = false := by rw [beq_eq_false_iff_ne]; omega
        have HE := Lib.hid (e2 [] (by simp [startsDU, c2]; omega))
        clear e2 c1 c2 hdd
        go_enter Tryz.func80, Tryz.ntmps80
        go_wp2_with (first
          | (go_at_call 93; refine (HD.out c.toNat _).mono ?_; rintro e w1 ⟨rfl, rfl⟩; rw [f1])
          | (go_at_call 95; refine (HI.out _ HT.out).mono ?_; rintro e w1 ⟨rfl, b1⟩))
        go_ret
        exact ⟨congrArg (fun b => Ending.returned (.string b)) HE.out, b1⟩
end Go.Proofs.YtidokamjbglkbaaGreatDoor

