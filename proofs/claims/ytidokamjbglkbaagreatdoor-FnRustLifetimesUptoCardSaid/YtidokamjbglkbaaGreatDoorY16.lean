/- fnSig. -/
import Derived.Test.YtidokamjbglkbaaGreatDoorY14
import Derived.Test.YtidokamjbglkbaaGreatDoorY15
import Derived.Test.YtidokamjbglkbaaGreatDoorY11
namespace Go.Proofs.YtidokamjbglkbaaGreatDoor
open Go.RowKit

/-- What stands behind the parameters. -/
inductive Res (lb : Nat) (sk : Bool) : List UInt8 → List UInt8 → List UInt8 → Prop
  | u (k : List UInt8) : Res lb sk (117 :: k) k []
  | t (c : UInt8) (l k txt : List UInt8) (hc : c.toNat ≠ 117) (h : Says 86 #[] lb sk (c :: l) k txt NS) : Res lb sk (c :: l) k ([32, 45, 62, 32] ++ txt)

set_option maxHeartbeats 4000000 in
set_option maxRecDepth 100000 in
theorem fnSig_00 (lb lb' : Nat) (sk : Bool) (inp l k k1 tb txt : List UInt8) (c : UInt8) (ts : List (List UInt8)) (rt : List UInt8) (hb : SaysL 120 #[] lb lb' sk inp (c :: l) tb T0) (hc1 : c.toNat ≠ 85) (hc2 : c.toNat ≠ 75) (h : Run 86 lb' sk (c :: l) (69 :: k1) ts) (hr : Res lb' sk k1 k rt) (htxt : txt = (tb ++ ([102, 110, 40])) ++ (joined [44, 32] ts ++ (41 :: rt))) :
    SaysL 107 #[] lb lb' sk inp k txt NS := by
  intro B b r w hr0 hsk hlb hi ho
  have hln := hr0.len
  have ho' := ho
  rw [htxt] at ho'
  have HO := Lib.hid ho'
  clear ho ho'
  have HI := Lib.hid hi
  have HSK := Lib.hid hsk
  have HLB := Lib.hid hlb
  have HT := Lib.hid htxt
  have HR := Lib.hid h
  have HRES := Lib.hid hr
  have hc1' : ((c.toNat : Int) == 85) = false := by rw [beq_eq_false_iff_ne]; omega
  have hc2' : ((c.toNat : Int) == 75) = false := by rw [beq_eq_false_iff_ne]; omega
  clear hi hsk hlb htxt h hr hc1 hc2
  have A := At.start hr0
  rw [HI.out] at A
  go_enter Tryz.func107, Tryz.ntmps107
  go_wp2_with fail
  refine (A.saysL hb HSK.out HLB.out (fun hs0 => by have ho' := HO.out hs0; simp at ho' ⊢; omega)).mono ?_
  rintro e w1 ⟨rfl, A'⟩
  clear A; have A := A'; clear A'
  have Ac1 := A.c1
  have Aln := A.len.2
  try simp only [List.length_cons] at Aln
  try simp only [List.length_append] at Aln
  try simp only [List.cons_append] at Ac1
  try simp only [List.nil_append] at Ac1
  go_wp2_with fail
  refine (A.ws [102, 110, 40] (by simp) (fun hs0 => by have ho' := HO.out hs0; simp at ho' ⊢; omega)).mono ?_
  rintro e w2 ⟨rfl, A'⟩
  clear Ac1 Aln
  clear A; have A := A'; clear A'
  have AP := (A.mono (G' := T0) fun _ _ => trivial).to rfl (show _ = tb ++ ([102, 110, 40]) by simp)
  clear A
  have A := AP
  clear AP
  obtain ⟨pt, hpt⟩ : ∃ pt, pt = tb ++ ([102, 110, 40]) := ⟨_, rfl⟩
  rw [← hpt] at A
  have ht2 := HT.out
  have ho2 := HO.out
  rw [← hpt] at ht2 ho2
  clear HT HO
  have HT := Lib.hid ht2
  have HO := Lib.hid ho2
  clear ht2 ho2 hpt
  go_wp2_with fail
  go_loopg [4] (ts.length + 1) (fun n f wr => ∃ (first : Bool) (inp' txt' : List UInt8) (ts' : List (List UInt8)), n = ts'.length + 1 ∧ f = .bool first ∧ Run 86 lb' sk inp' (69 :: k1) ts' ∧
    pt ++ joined [44, 32] ts = txt' ++ (if first then joined [44, 32] ts' else tailText [44, 32] ts') ∧ At B b (r.lives lb') w inp' txt' T0 wr)
  case atStart => exact ⟨true, c :: l, pt, ts, rfl, rfl, HR.out, rfl, A⟩
  case round =>
    obtain ⟨first, inp', txt', ts', rfl, rfl, hrun, htx, A⟩ := hrel
    cases hrun with
    | nil =>
      have Ac1 := A.c1
      have Aln := A.len.2
      simp only [List.length_cons] at Aln
      have htx' : txt' = pt ++ joined [44, 32] ts := by rw [htx]; cases first <;> simp [joined, tailText]
      subst htx'
      clear htx
      go_wp2_with fail
      refine (A.chk 69 69 rfl).mono ?_
      rintro e w3 ⟨rfl, A3⟩
      clear A Ac1 Aln
      go_wp2_with fail
      refine (A3.wb 41 41 rfl (fun hs0 => by have ho' := HO.out hs0; simp at ho' ⊢; omega)).mono ?_
      rintro e w4 ⟨rfl, A4⟩
      clear A3
      have Ac1 := A4.c1
      have Aln := A4.len.2
      have HT' := HT.out
      have HO' := HO.out
      clear HT HO
      cases HRES.out with
      | u k =>
        simp only [List.length_cons] at Aln
        have HT := Lib.hid HT'
        clear HO' HT'
        go_wp2_with fail
        refine (A4.adv 117).mono ?_
        rintro e w5 ⟨rfl, A5⟩
        go_wp2_with fail
        go_end0
        exact ⟨rfl, (A5.mono fun l e => by rw [e]; decide).to rfl (by rw [HT.out]; simp)⟩
      | t c' l' _ tx hc' hs =>
        simp only [List.length_cons] at Aln
        have hc'' : ((c'.toNat : Int) == 117) = false := by rw [beq_eq_false_iff_ne]; omega
        have HT := Lib.hid HT'
        have HO := Lib.hid HO'
        clear HO' HT' hc'
        go_wp2_with fail
        refine (A4.ws [32, 45, 62, 32] (by simp) (fun hs0 => by have ho' := HO.out hs0; simp at ho' ⊢; omega)).mono ?_
        rintro e w5 ⟨rfl, A5⟩
        clear A4 Ac1 Aln
        go_wp2_with fail
        refine (A5.says hs HSK.out rfl (fun hs0 => by have ho' := HO.out hs0; simp at ho' ⊢; omega)).mono ?_
        rintro e w6 ⟨rfl, A6⟩
        go_wp2_with fail
        go_end0
        exact ⟨rfl, A6.to rfl (by rw [HT.out]; simp)⟩
    | cons c' l' k2 _ t ts2 hc' hs hrun =>
      have Ac1 := A.c1
      have Aln := A.len.2
      simp only [List.length_cons] at Aln
      have hc'' : ((c'.toNat : Int) != 69) = true := by simp; omega
      have HTX := Lib.hid htx
      have HRUN := Lib.hid hrun
      clear htx hc' hrun
      cases first with
      | true =>
        go_wp2_with fail
        refine (A.says hs HSK.out rfl ?_).mono ?_
        · intro hs0; have a := HO.out hs0; have b := congrArg List.length HTX.out; simp [joined] at a b ⊢; omega
        rintro e w1 ⟨rfl, A'⟩
        go_wp2_with fail
        go_roundg (ts2.length + 1)
        case measure => simp
        case rel => exact ⟨false, k2, txt' ++ t, ts2, rfl, rfl, HRUN.out, by rw [HTX.out]; simp [joined], A'⟩
      | false =>
        go_wp2_with fail
        refine (A.ws [44, 32] (by simp) ?_).mono ?_
        · intro hs0; have a := HO.out hs0; have b := congrArg List.length HTX.out; simp [tailText] at a b ⊢; omega
        rintro e w1 ⟨rfl, A'⟩
        go_wp2_with fail
        refine (A'.says hs HSK.out rfl ?_).mono ?_
        · intro hs0; have a := HO.out hs0; have b := congrArg List.length HTX.out; simp [tailText] at a b ⊢; omega
        rintro e w2 ⟨rfl, A''⟩
        go_wp2_with fail
        go_roundg (ts2.length + 1)
        case measure => simp
        case rel => exact ⟨false, k2, txt' ++ [44, 32] ++ t, ts2, rfl, rfl, HRUN.out, by rw [HTX.out]; simp [tailText], A''⟩

set_option maxHeartbeats 4000000 in
set_option maxRecDepth 100000 in
theorem fnSig_U0 (lb lb' : Nat) (sk : Bool) (inp l k k1 tb txt : List UInt8) (c : UInt8) (ts : List (List UInt8)) (rt : List UInt8) (hb : SaysL 120 #[] lb lb' sk inp (85 :: c :: l) tb T0) (hc1 : c.toNat ≠ 85) (hc2 : c.toNat ≠ 75) (h : Run 86 lb' sk (c :: l) (69 :: k1) ts) (hr : Res lb' sk k1 k rt) (htxt : txt = (tb ++ ([117, 110, 115, 97, 102, 101, 32] ++ ([102, 110, 40]))) ++ (joined [44, 32] ts ++ (41 :: rt))) :
    SaysL 107 #[] lb lb' sk inp k txt NS := by
  intro B b r w hr0 hsk hlb hi ho
  have hln := hr0.len
  have ho' := ho
  rw [htxt] at ho'
  have HO := Lib.hid ho'
  clear ho ho'
  have HI := Lib.hid hi
  have HSK := Lib.hid hsk
  have HLB := Lib.hid hlb
  have HT := Lib.hid htxt
  have HR := Lib.hid h
  have HRES := Lib.hid hr
  have hc1' : ((c.toNat : Int) == 85) = false := by rw [beq_eq_false_iff_ne]; omega
  have hc2' : ((c.toNat : Int) == 75) = false := by rw [beq_eq_false_iff_ne]; omega
  clear hi hsk hlb htxt h hr hc1 hc2
  have A := At.start hr0
  rw [HI.out] at A
  go_enter Tryz.func107, Tryz.ntmps107
  go_wp2_with fail
  refine (A.saysL hb HSK.out HLB.out (fun hs0 => by have ho' := HO.out hs0; simp at ho' ⊢; omega)).mono ?_
  rintro e w1 ⟨rfl, A'⟩
  clear A; have A := A'; clear A'
  have Ac1 := A.c1
  have Aln := A.len.2
  try simp only [List.length_cons] at Aln
  try simp only [List.length_append] at Aln
  try simp only [List.cons_append] at Ac1
  try simp only [List.nil_append] at Ac1
  go_wp2_with fail
  refine (A.adv 85).mono ?_
  rintro e w2 ⟨rfl, A'⟩
  clear Ac1 Aln
  clear A; have A := A'; clear A'
  go_wp2_with fail
  refine (A.ws [117, 110, 115, 97, 102, 101, 32] (by simp) (fun hs0 => by have ho' := HO.out hs0; simp at ho' ⊢; omega)).mono ?_
  rintro e w3 ⟨rfl, A'⟩
  clear A; have A := A'; clear A'
  have Ac1 := A.c1
  have Aln := A.len.2
  try simp only [List.length_cons] at Aln
  try simp only [List.length_append] at Aln
  try simp only [List.cons_append] at Ac1
  try simp only [List.nil_append] at Ac1
  go_wp2_with fail
  refine (A.ws [102, 110, 40] (by simp) (fun hs0 => by have ho' := HO.out hs0; simp at ho' ⊢; omega)).mono ?_
  rintro e w4 ⟨rfl, A'⟩
  clear Ac1 Aln
  clear A; have A := A'; clear A'
  have AP := (A.mono (G' := T0) fun _ _ => trivial).to rfl (show _ = tb ++ ([117, 110, 115, 97, 102, 101, 32] ++ ([102, 110, 40])) by simp)
  clear A
  have A := AP
  clear AP
  obtain ⟨pt, hpt⟩ : ∃ pt, pt = tb ++ ([117, 110, 115, 97, 102, 101, 32] ++ ([102, 110, 40])) := ⟨_, rfl⟩
  rw [← hpt] at A
  have ht2 := HT.out
  have ho2 := HO.out
  rw [← hpt] at ht2 ho2
  clear HT HO
  have HT := Lib.hid ht2
  have HO := Lib.hid ho2
  clear ht2 ho2 hpt
  go_wp2_with fail
  go_loopg [4] (ts.length + 1) (fun n f wr => ∃ (first : Bool) (inp' txt' : List UInt8) (ts' : List (List UInt8)), n = ts'.length + 1 ∧ f = .bool first ∧ Run 86 lb' sk inp' (69 :: k1) ts' ∧
    pt ++ joined [44, 32] ts = txt' ++ (if first then joined [44, 32] ts' else tailText [44, 32] ts') ∧ At B b (r.lives lb') w inp' txt' T0 wr)
  case atStart => exact ⟨true, c :: l, pt, ts, rfl, rfl, HR.out, rfl, A⟩
  case round =>
    obtain ⟨first, inp', txt', ts', rfl, rfl, hrun, htx, A⟩ := hrel
    cases hrun with
    | nil =>
      have Ac1 := A.c1
      have Aln := A.len.2
      simp only [List.length_cons] at Aln
      have htx' : txt' = pt ++ joined [44, 32] ts := by rw [htx]; cases first <;> simp [joined, tailText]
      subst htx'
      clear htx
      go_wp2_with fail
      refine (A.chk 69 69 rfl).mono ?_
      rintro e w3 ⟨rfl, A3⟩
      clear A Ac1 Aln
      go_wp2_with fail
      refine (A3.wb 41 41 rfl (fun hs0 => by have ho' := HO.out hs0; simp at ho' ⊢; omega)).mono ?_
      rintro e w4 ⟨rfl, A4⟩
      clear A3
      have Ac1 := A4.c1
      have Aln := A4.len.2
      have HT' := HT.out
      have HO' := HO.out
      clear HT HO
      cases HRES.out with
      | u k =>
        simp only [List.length_cons] at Aln
        have HT := Lib.hid HT'
        clear HO' HT'
        go_wp2_with fail
        refine (A4.adv 117).mono ?_
        rintro e w5 ⟨rfl, A5⟩
        go_wp2_with fail
        go_end0
        exact ⟨rfl, (A5.mono fun l e => by rw [e]; decide).to rfl (by rw [HT.out]; simp)⟩
      | t c' l' _ tx hc' hs =>
        simp only [List.length_cons] at Aln
        have hc'' : ((c'.toNat : Int) == 117) = false := by rw [beq_eq_false_iff_ne]; omega
        have HT := Lib.hid HT'
        have HO := Lib.hid HO'
        clear HO' HT' hc'
        go_wp2_with fail
        refine (A4.ws [32, 45, 62, 32] (by simp) (fun hs0 => by have ho' := HO.out hs0; simp at ho' ⊢; omega)).mono ?_
        rintro e w5 ⟨rfl, A5⟩
        clear A4 Ac1 Aln
        go_wp2_with fail
        refine (A5.says hs HSK.out rfl (fun hs0 => by have ho' := HO.out hs0; simp at ho' ⊢; omega)).mono ?_
        rintro e w6 ⟨rfl, A6⟩
        go_wp2_with fail
        go_end0
        exact ⟨rfl, A6.to rfl (by rw [HT.out]; simp)⟩
    | cons c' l' k2 _ t ts2 hc' hs hrun =>
      have Ac1 := A.c1
      have Aln := A.len.2
      simp only [List.length_cons] at Aln
      have hc'' : ((c'.toNat : Int) != 69) = true := by simp; omega
      have HTX := Lib.hid htx
      have HRUN := Lib.hid hrun
      clear htx hc' hrun
      cases first with
      | true =>
        go_wp2_with fail
        refine (A.says hs HSK.out rfl ?_).mono ?_
        · intro hs0; have a := HO.out hs0; have b := congrArg List.length HTX.out; simp [joined] at a b ⊢; omega
        rintro e w1 ⟨rfl, A'⟩
        go_wp2_with fail
        go_roundg (ts2.length + 1)
        case measure => simp
        case rel => exact ⟨false, k2, txt' ++ t, ts2, rfl, rfl, HRUN.out, by rw [HTX.out]; simp [joined], A'⟩
      | false =>
        go_wp2_with fail
        refine (A.ws [44, 32] (by simp) ?_).mono ?_
        · intro hs0; have a := HO.out hs0; have b := congrArg List.length HTX.out; simp [tailText] at a b ⊢; omega
        rintro e w1 ⟨rfl, A'⟩
        go_wp2_with fail
        refine (A'.says hs HSK.out rfl ?_).mono ?_
        · intro hs0; have a := HO.out hs0; have b := congrArg List.length HTX.out; simp [tailText] at a b ⊢; omega
        rintro e w2 ⟨rfl, A''⟩
        go_wp2_with fail
        go_roundg (ts2.length + 1)
        case measure => simp
        case rel => exact ⟨false, k2, txt' ++ [44, 32] ++ t, ts2, rfl, rfl, HRUN.out, by rw [HTX.out]; simp [tailText], A''⟩

set_option maxHeartbeats 4000000 in
set_option maxRecDepth 100000 in
theorem fnSig_0C (lb lb' : Nat) (sk : Bool) (inp l k k1 tb txt : List UInt8) (c : UInt8) (ts : List (List UInt8)) (rt : List UInt8) (hb : SaysL 120 #[] lb lb' sk inp (75 :: 67 :: c :: l) tb T0) (hc1 : c.toNat ≠ 85) (hc2 : c.toNat ≠ 75) (h : Run 86 lb' sk (c :: l) (69 :: k1) ts) (hr : Res lb' sk k1 k rt) (htxt : txt = (tb ++ ([101, 120, 116, 101, 114, 110, 32, 34, 67, 34, 32] ++ ([102, 110, 40]))) ++ (joined [44, 32] ts ++ (41 :: rt))) :
    SaysL 107 #[] lb lb' sk inp k txt NS := by
  intro B b r w hr0 hsk hlb hi ho
  have hln := hr0.len
  have ho' := ho
  rw [htxt] at ho'
  have HO := Lib.hid ho'
  clear ho ho'
  have HI := Lib.hid hi
  have HSK := Lib.hid hsk
  have HLB := Lib.hid hlb
  have HT := Lib.hid htxt
  have HR := Lib.hid h
  have HRES := Lib.hid hr
  have hc1' : ((c.toNat : Int) == 85) = false := by rw [beq_eq_false_iff_ne]; omega
  have hc2' : ((c.toNat : Int) == 75) = false := by rw [beq_eq_false_iff_ne]; omega
  clear hi hsk hlb htxt h hr hc1 hc2
  have A := At.start hr0
  rw [HI.out] at A
  go_enter Tryz.func107, Tryz.ntmps107
  go_wp2_with fail
  refine (A.saysL hb HSK.out HLB.out (fun hs0 => by have ho' := HO.out hs0; simp at ho' ⊢; omega)).mono ?_
  rintro e w1 ⟨rfl, A'⟩
  clear A; have A := A'; clear A'
  have Ac1 := A.c1
  have Aln := A.len.2
  try simp only [List.length_cons] at Aln
  try simp only [List.length_append] at Aln
  try simp only [List.cons_append] at Ac1
  try simp only [List.nil_append] at Ac1
  go_wp2_with fail
  refine (A.adv 75).mono ?_
  rintro e w2 ⟨rfl, A'⟩
  clear Ac1 Aln
  clear A; have A := A'; clear A'
  have Ac1 := A.c1
  have Aln := A.len.2
  try simp only [List.length_cons] at Aln
  try simp only [List.length_append] at Aln
  try simp only [List.cons_append] at Ac1
  try simp only [List.nil_append] at Ac1
  go_wp2_with fail
  refine (A.adv 67).mono ?_
  rintro e w3 ⟨rfl, A'⟩
  clear Ac1 Aln
  clear A; have A := A'; clear A'
  go_wp2_with fail
  refine (A.ws [101, 120, 116, 101, 114, 110, 32, 34, 67, 34, 32] (by simp) (fun hs0 => by have ho' := HO.out hs0; simp at ho' ⊢; omega)).mono ?_
  rintro e w4 ⟨rfl, A'⟩
  clear A; have A := A'; clear A'
  go_wp2_with fail
  refine (A.ws [102, 110, 40] (by simp) (fun hs0 => by have ho' := HO.out hs0; simp at ho' ⊢; omega)).mono ?_
  rintro e w5 ⟨rfl, A'⟩
  clear A; have A := A'; clear A'
  have AP := (A.mono (G' := T0) fun _ _ => trivial).to rfl (show _ = tb ++ ([101, 120, 116, 101, 114, 110, 32, 34, 67, 34, 32] ++ ([102, 110, 40])) by simp)
  clear A
  have A := AP
  clear AP
  obtain ⟨pt, hpt⟩ : ∃ pt, pt = tb ++ ([101, 120, 116, 101, 114, 110, 32, 34, 67, 34, 32] ++ ([102, 110, 40])) := ⟨_, rfl⟩
  rw [← hpt] at A
  have ht2 := HT.out
  have ho2 := HO.out
  rw [← hpt] at ht2 ho2
  clear HT HO
  have HT := Lib.hid ht2
  have HO := Lib.hid ho2
  clear ht2 ho2 hpt
  go_wp2_with fail
  go_loopg [4] (ts.length + 1) (fun n f wr => ∃ (first : Bool) (inp' txt' : List UInt8) (ts' : List (List UInt8)), n = ts'.length + 1 ∧ f = .bool first ∧ Run 86 lb' sk inp' (69 :: k1) ts' ∧
    pt ++ joined [44, 32] ts = txt' ++ (if first then joined [44, 32] ts' else tailText [44, 32] ts') ∧ At B b (r.lives lb') w inp' txt' T0 wr)
  case atStart => exact ⟨true, c :: l, pt, ts, rfl, rfl, HR.out, rfl, A⟩
  case round =>
    obtain ⟨first, inp', txt', ts', rfl, rfl, hrun, htx, A⟩ := hrel
    cases hrun with
    | nil =>
      have Ac1 := A.c1
      have Aln := A.len.2
      simp only [List.length_cons] at Aln
      have htx' : txt' = pt ++ joined [44, 32] ts := by rw [htx]; cases first <;> simp [joined, tailText]
      subst htx'
      clear htx
      go_wp2_with fail
      refine (A.chk 69 69 rfl).mono ?_
      rintro e w3 ⟨rfl, A3⟩
      clear A Ac1 Aln
      go_wp2_with fail
      refine (A3.wb 41 41 rfl (fun hs0 => by have ho' := HO.out hs0; simp at ho' ⊢; omega)).mono ?_
      rintro e w4 ⟨rfl, A4⟩
      clear A3
      have Ac1 := A4.c1
      have Aln := A4.len.2
      have HT' := HT.out
      have HO' := HO.out
      clear HT HO
      cases HRES.out with
      | u k =>
        simp only [List.length_cons] at Aln
        have HT := Lib.hid HT'
        clear HO' HT'
        go_wp2_with fail
        refine (A4.adv 117).mono ?_
        rintro e w5 ⟨rfl, A5⟩
        go_wp2_with fail
        go_end0
        exact ⟨rfl, (A5.mono fun l e => by rw [e]; decide).to rfl (by rw [HT.out]; simp)⟩
      | t c' l' _ tx hc' hs =>
        simp only [List.length_cons] at Aln
        have hc'' : ((c'.toNat : Int) == 117) = false := by rw [beq_eq_false_iff_ne]; omega
        have HT := Lib.hid HT'
        have HO := Lib.hid HO'
        clear HO' HT' hc'
        go_wp2_with fail
        refine (A4.ws [32, 45, 62, 32] (by simp) (fun hs0 => by have ho' := HO.out hs0; simp at ho' ⊢; omega)).mono ?_
        rintro e w5 ⟨rfl, A5⟩
        clear A4 Ac1 Aln
        go_wp2_with fail
        refine (A5.says hs HSK.out rfl (fun hs0 => by have ho' := HO.out hs0; simp at ho' ⊢; omega)).mono ?_
        rintro e w6 ⟨rfl, A6⟩
        go_wp2_with fail
        go_end0
        exact ⟨rfl, A6.to rfl (by rw [HT.out]; simp)⟩
    | cons c' l' k2 _ t ts2 hc' hs hrun =>
      have Ac1 := A.c1
      have Aln := A.len.2
      simp only [List.length_cons] at Aln
      have hc'' : ((c'.toNat : Int) != 69) = true := by simp; omega
      have HTX := Lib.hid htx
      have HRUN := Lib.hid hrun
      clear htx hc' hrun
      cases first with
      | true =>
        go_wp2_with fail
        refine (A.says hs HSK.out rfl ?_).mono ?_
        · intro hs0; have a := HO.out hs0; have b := congrArg List.length HTX.out; simp [joined] at a b ⊢; omega
        rintro e w1 ⟨rfl, A'⟩
        go_wp2_with fail
        go_roundg (ts2.length + 1)
        case measure => simp
        case rel => exact ⟨false, k2, txt' ++ t, ts2, rfl, rfl, HRUN.out, by rw [HTX.out]; simp [joined], A'⟩
      | false =>
        go_wp2_with fail
        refine (A.ws [44, 32] (by simp) ?_).mono ?_
        · intro hs0; have a := HO.out hs0; have b := congrArg List.length HTX.out; simp [tailText] at a b ⊢; omega
        rintro e w1 ⟨rfl, A'⟩
        go_wp2_with fail
        refine (A'.says hs HSK.out rfl ?_).mono ?_
        · intro hs0; have a := HO.out hs0; have b := congrArg List.length HTX.out; simp [tailText] at a b ⊢; omega
        rintro e w2 ⟨rfl, A''⟩
        go_wp2_with fail
        go_roundg (ts2.length + 1)
        case measure => simp
        case rel => exact ⟨false, k2, txt' ++ [44, 32] ++ t, ts2, rfl, rfl, HRUN.out, by rw [HTX.out]; simp [tailText], A''⟩

set_option maxHeartbeats 4000000 in
set_option maxRecDepth 100000 in
theorem fnSig_UC (lb lb' : Nat) (sk : Bool) (inp l k k1 tb txt : List UInt8) (c : UInt8) (ts : List (List UInt8)) (rt : List UInt8) (hb : SaysL 120 #[] lb lb' sk inp (85 :: 75 :: 67 :: c :: l) tb T0) (hc1 : c.toNat ≠ 85) (hc2 : c.toNat ≠ 75) (h : Run 86 lb' sk (c :: l) (69 :: k1) ts) (hr : Res lb' sk k1 k rt) (htxt : txt = (tb ++ ([117, 110, 115, 97, 102, 101, 32] ++ ([101, 120, 116, 101, 114, 110, 32, 34, 67, 34, 32] ++ ([102, 110, 40])))) ++ (joined [44, 32] ts ++ (41 :: rt))) :
    SaysL 107 #[] lb lb' sk inp k txt NS := by
  intro B b r w hr0 hsk hlb hi ho
  have hln := hr0.len
  have ho' := ho
  rw [htxt] at ho'
  have HO := Lib.hid ho'
  clear ho ho'
  have HI := Lib.hid hi
  have HSK := Lib.hid hsk
  have HLB := Lib.hid hlb
  have HT := Lib.hid htxt
  have HR := Lib.hid h
  have HRES := Lib.hid hr
  have hc1' : ((c.toNat : Int) == 85) = false := by rw [beq_eq_false_iff_ne]; omega
  have hc2' : ((c.toNat : Int) == 75) = false := by rw [beq_eq_false_iff_ne]; omega
  clear hi hsk hlb htxt h hr hc1 hc2
  have A := At.start hr0
  rw [HI.out] at A
  go_enter Tryz.func107, Tryz.ntmps107
  go_wp2_with fail
  refine (A.saysL hb HSK.out HLB.out (fun hs0 => by have ho' := HO.out hs0; simp at ho' ⊢; omega)).mono ?_
  rintro e w1 ⟨rfl, A'⟩
  clear A; have A := A'; clear A'
  have Ac1 := A.c1
  have Aln := A.len.2
  try simp only [List.length_cons] at Aln
  try simp only [List.length_append] at Aln
  try simp only [List.cons_append] at Ac1
  try simp only [List.nil_append] at Ac1
  go_wp2_with fail
  refine (A.adv 85).mono ?_
  rintro e w2 ⟨rfl, A'⟩
  clear Ac1 Aln
  clear A; have A := A'; clear A'
  go_wp2_with fail
  refine (A.ws [117, 110, 115, 97, 102, 101, 32] (by simp) (fun hs0 => by have ho' := HO.out hs0; simp at ho' ⊢; omega)).mono ?_
  rintro e w3 ⟨rfl, A'⟩
  clear A; have A := A'; clear A'
  have Ac1 := A.c1
  have Aln := A.len.2
  try simp only [List.length_cons] at Aln
  try simp only [List.length_append] at Aln
  try simp only [List.cons_append] at Ac1
  try simp only [List.nil_append] at Ac1
  go_wp2_with fail
  refine (A.adv 75).mono ?_
  rintro e w4 ⟨rfl, A'⟩
  clear Ac1 Aln
  clear A; have A := A'; clear A'
  have Ac1 := A.c1
  have Aln := A.len.2
  try simp only [List.length_cons] at Aln
  try simp only [List.length_append] at Aln
  try simp only [List.cons_append] at Ac1
  try simp only [List.nil_append] at Ac1
  go_wp2_with fail
  refine (A.adv 67).mono ?_
  rintro e w5 ⟨rfl, A'⟩
  clear Ac1 Aln
  clear A; have A := A'; clear A'
  go_wp2_with fail
  refine (A.ws [101, 120, 116, 101, 114, 110, 32, 34, 67, 34, 32] (by simp) (fun hs0 => by have ho' := HO.out hs0; simp at ho' ⊢; omega)).mono ?_
  rintro e w6 ⟨rfl, A'⟩
  clear A; have A := A'; clear A'
  go_wp2_with fail
  refine (A.ws [102, 110, 40] (by simp) (fun hs0 => by have ho' := HO.out hs0; simp at ho' ⊢; omega)).mono ?_
  rintro e w7 ⟨rfl, A'⟩
  clear A; have A := A'; clear A'
  have AP := (A.mono (G' := T0) fun _ _ => trivial).to rfl (show _ = tb ++ ([117, 110, 115, 97, 102, 101, 32] ++ ([101, 120, 116, 101, 114, 110, 32, 34, 67, 34, 32] ++ ([102, 110, 40]))) by simp)
  clear A
  have A := AP
  clear AP
  obtain ⟨pt, hpt⟩ : ∃ pt, pt = tb ++ ([117, 110, 115, 97, 102, 101, 32] ++ ([101, 120, 116, 101, 114, 110, 32, 34, 67, 34, 32] ++ ([102, 110, 40]))) := ⟨_, rfl⟩
  rw [← hpt] at A
  have ht2 := HT.out
  have ho2 := HO.out
  rw [← hpt] at ht2 ho2
  clear HT HO
  have HT := Lib.hid ht2
  have HO := Lib.hid ho2
  clear ht2 ho2 hpt
  go_wp2_with fail
  go_loopg [4] (ts.length + 1) (fun n f wr => ∃ (first : Bool) (inp' txt' : List UInt8) (ts' : List (List UInt8)), n = ts'.length + 1 ∧ f = .bool first ∧ Run 86 lb' sk inp' (69 :: k1) ts' ∧
    pt ++ joined [44, 32] ts = txt' ++ (if first then joined [44, 32] ts' else tailText [44, 32] ts') ∧ At B b (r.lives lb') w inp' txt' T0 wr)
  case atStart => exact ⟨true, c :: l, pt, ts, rfl, rfl, HR.out, rfl, A⟩
  case round =>
    obtain ⟨first, inp', txt', ts', rfl, rfl, hrun, htx, A⟩ := hrel
    cases hrun with
    | nil =>
      have Ac1 := A.c1
      have Aln := A.len.2
      simp only [List.length_cons] at Aln
      have htx' : txt' = pt ++ joined [44, 32] ts := by rw [htx]; cases first <;> simp [joined, tailText]
      subst htx'
      clear htx
      go_wp2_with fail
      refine (A.chk 69 69 rfl).mono ?_
      rintro e w3 ⟨rfl, A3⟩
      clear A Ac1 Aln
      go_wp2_with fail
      refine (A3.wb 41 41 rfl (fun hs0 => by have ho' := HO.out hs0; simp at ho' ⊢; omega)).mono ?_
      rintro e w4 ⟨rfl, A4⟩
      clear A3
      have Ac1 := A4.c1
      have Aln := A4.len.2
      have HT' := HT.out
      have HO' := HO.out
      clear HT HO
      cases HRES.out with
      | u k =>
        simp only [List.length_cons] at Aln
        have HT := Lib.hid HT'
        clear HO' HT'
        go_wp2_with fail
        refine (A4.adv 117).mono ?_
        rintro e w5 ⟨rfl, A5⟩
        go_wp2_with fail
        go_end0
        exact ⟨rfl, (A5.mono fun l e => by rw [e]; decide).to rfl (by rw [HT.out]; simp)⟩
      | t c' l' _ tx hc' hs =>
        simp only [List.length_cons] at Aln
        have hc'' : ((c'.toNat : Int) == 117) = false := by rw [beq_eq_false_iff_ne]; omega
        have HT := Lib.hid HT'
        have HO := Lib.hid HO'
        clear HO' HT' hc'
        go_wp2_with fail
        refine (A4.ws [32, 45, 62, 32] (by simp) (fun hs0 => by have ho' := HO.out hs0; simp at ho' ⊢; omega)).mono ?_
        rintro e w5 ⟨rfl, A5⟩
        clear A4 Ac1 Aln
        go_wp2_with fail
        refine (A5.says hs HSK.out rfl (fun hs0 => by have ho' := HO.out hs0; simp at ho' ⊢; omega)).mono ?_
        rintro e w6 ⟨rfl, A6⟩
        go_wp2_with fail
        go_end0
        exact ⟨rfl, A6.to rfl (by rw [HT.out]; simp)⟩
    | cons c' l' k2 _ t ts2 hc' hs hrun =>
      have Ac1 := A.c1
      have Aln := A.len.2
      simp only [List.length_cons] at Aln
      have hc'' : ((c'.toNat : Int) != 69) = true := by simp; omega
      have HTX := Lib.hid htx
      have HRUN := Lib.hid hrun
      clear htx hc' hrun
      cases first with
      | true =>
        go_wp2_with fail
        refine (A.says hs HSK.out rfl ?_).mono ?_
        · intro hs0; have a := HO.out hs0; have b := congrArg List.length HTX.out; simp [joined] at a b ⊢; omega
        rintro e w1 ⟨rfl, A'⟩
        go_wp2_with fail
        go_roundg (ts2.length + 1)
        case measure => simp
        case rel => exact ⟨false, k2, txt' ++ t, ts2, rfl, rfl, HRUN.out, by rw [HTX.out]; simp [joined], A'⟩
      | false =>
        go_wp2_with fail
        refine (A.ws [44, 32] (by simp) ?_).mono ?_
        · intro hs0; have a := HO.out hs0; have b := congrArg List.length HTX.out; simp [tailText] at a b ⊢; omega
        rintro e w1 ⟨rfl, A'⟩
        go_wp2_with fail
        refine (A'.says hs HSK.out rfl ?_).mono ?_
        · intro hs0; have a := HO.out hs0; have b := congrArg List.length HTX.out; simp [tailText] at a b ⊢; omega
        rintro e w2 ⟨rfl, A''⟩
        go_wp2_with fail
        go_roundg (ts2.length + 1)
        case measure => simp
        case rel => exact ⟨false, k2, txt' ++ [44, 32] ++ t, ts2, rfl, rfl, HRUN.out, by rw [HTX.out]; simp [tailText], A''⟩

set_option maxHeartbeats 4000000 in
set_option maxRecDepth 100000 in
theorem fnSig_0I (lb lb' : Nat) (sk : Bool) (d : UInt8) (dl nm : List UInt8) (inp l k k1 tb txt : List UInt8) (c : UInt8) (ts : List (List UInt8)) (rt : List UInt8) (hb : SaysL 120 #[] lb lb' sk inp (75 :: d :: dl) tb T0) (hc1 : c.toNat ≠ 85) (hc2 : c.toNat ≠ 75) (h : Run 86 lb' sk (c :: l) (69 :: k1) ts) (hr : Res lb' sk k1 k rt) (hd : d.toNat ≠ 67) (hu : Undis (d :: dl) (c :: l) nm false) (hnm : nm.length ≤ 1000) (htxt : txt = (tb ++ ([101, 120, 116, 101, 114, 110, 32, 34] ++ (nm.map rep ++ ([34, 32] ++ ([102, 110, 40]))))) ++ (joined [44, 32] ts ++ (41 :: rt))) :
    SaysL 107 #[] lb lb' sk inp k txt NS := by
  intro B b r w hr0 hsk hlb hi ho
  have hln := hr0.len
  have ho' := ho
  rw [htxt] at ho'
  have HO := Lib.hid ho'
  clear ho ho'
  have HI := Lib.hid hi
  have HSK := Lib.hid hsk
  have HLB := Lib.hid hlb
  have HT := Lib.hid htxt
  have HR := Lib.hid h
  have HRES := Lib.hid hr
  have hc1' : ((c.toNat : Int) == 85) = false := by rw [beq_eq_false_iff_ne]; omega
  have hc2' : ((c.toNat : Int) == 75) = false := by rw [beq_eq_false_iff_ne]; omega
  have hd' : ((d.toNat : Int) == 67) = false := by rw [beq_eq_false_iff_ne]; omega
  have HNM := Lib.hid hnm
  clear hd hnm
  clear hi hsk hlb htxt h hr hc1 hc2
  have A := At.start hr0
  rw [HI.out] at A
  go_enter Tryz.func107, Tryz.ntmps107
  go_wp2_with fail
  refine (A.saysL hb HSK.out HLB.out (fun hs0 => by have ho' := HO.out hs0; simp at ho' ⊢; omega)).mono ?_
  rintro e w1 ⟨rfl, A'⟩
  clear A; have A := A'; clear A'
  have Ac1 := A.c1
  have Aln := A.len.2
  try simp only [List.length_cons] at Aln
  try simp only [List.length_append] at Aln
  try simp only [List.cons_append] at Ac1
  try simp only [List.nil_append] at Ac1
  go_wp2_with fail
  refine (A.adv 75).mono ?_
  rintro e w2 ⟨rfl, A'⟩
  clear Ac1 Aln
  clear A; have A := A'; clear A'
  have Ac1 := A.c1
  have Aln := A.len.2
  try simp only [List.length_cons] at Aln
  try simp only [List.length_append] at Aln
  try simp only [List.cons_append] at Ac1
  try simp only [List.nil_append] at Ac1
  go_wp2_with fail
  refine (A.ws [101, 120, 116, 101, 114, 110, 32, 34] (by simp) (fun hs0 => by have ho' := HO.out hs0; simp at ho' ⊢; omega)).mono ?_
  rintro e w3 ⟨rfl, A'⟩
  clear Ac1 Aln
  clear A; have A := A'; clear A'
  go_wp2_with fail
  refine (hu B b _ _ _ _ _ A).mono ?_
  rintro e w4 ⟨rfl, A'⟩
  clear A; have A := A'; clear A'
  go_wp2_with fail
  refine (replace_any nm rep (fun x => rfl) (by have := HNM.out; omega) _).mono ?_
  rintro e wz ⟨rfl, bz⟩
  have A' := A.below bz
  clear A bz; have A := A'; clear A'
  go_wp2_with fail
  refine (A.ws0 (nm.map rep) (fun hs0 => by have ho' := HO.out hs0; simp at ho' ⊢; omega)).mono ?_
  rintro e w5 ⟨rfl, A'⟩
  clear A; have A := A'; clear A'
  go_wp2_with fail
  refine (A.ws [34, 32] (by simp) (fun hs0 => by have ho' := HO.out hs0; simp at ho' ⊢; omega)).mono ?_
  rintro e w6 ⟨rfl, A'⟩
  clear A; have A := A'; clear A'
  go_wp2_with fail
  refine (A.ws [102, 110, 40] (by simp) (fun hs0 => by have ho' := HO.out hs0; simp at ho' ⊢; omega)).mono ?_
  rintro e w7 ⟨rfl, A'⟩
  clear A; have A := A'; clear A'
  have AP := (A.mono (G' := T0) fun _ _ => trivial).to rfl (show _ = tb ++ ([101, 120, 116, 101, 114, 110, 32, 34] ++ (nm.map rep ++ ([34, 32] ++ ([102, 110, 40])))) by simp)
  clear A
  have A := AP
  clear AP
  obtain ⟨pt, hpt⟩ : ∃ pt, pt = tb ++ ([101, 120, 116, 101, 114, 110, 32, 34] ++ (nm.map rep ++ ([34, 32] ++ ([102, 110, 40])))) := ⟨_, rfl⟩
  rw [← hpt] at A
  have ht2 := HT.out
  have ho2 := HO.out
  rw [← hpt] at ht2 ho2
  clear HT HO
  have HT := Lib.hid ht2
  have HO := Lib.hid ho2
  clear ht2 ho2 hpt
  go_wp2_with fail
  go_loopg [4] (ts.length + 1) (fun n f wr => ∃ (first : Bool) (inp' txt' : List UInt8) (ts' : List (List UInt8)), n = ts'.length + 1 ∧ f = .bool first ∧ Run 86 lb' sk inp' (69 :: k1) ts' ∧
    pt ++ joined [44, 32] ts = txt' ++ (if first then joined [44, 32] ts' else tailText [44, 32] ts') ∧ At B b (r.lives lb') w inp' txt' T0 wr)
  case atStart => exact ⟨true, c :: l, pt, ts, rfl, rfl, HR.out, rfl, A⟩
  case round =>
    obtain ⟨first, inp', txt', ts', rfl, rfl, hrun, htx, A⟩ := hrel
    cases hrun with
    | nil =>
      have Ac1 := A.c1
      have Aln := A.len.2
      simp only [List.length_cons] at Aln
      have htx' : txt' = pt ++ joined [44, 32] ts := by rw [htx]; cases first <;> simp [joined, tailText]
      subst htx'
      clear htx
      go_wp2_with fail
      refine (A.chk 69 69 rfl).mono ?_
      rintro e w3 ⟨rfl, A3⟩
      clear A Ac1 Aln
      go_wp2_with fail
      refine (A3.wb 41 41 rfl (fun hs0 => by have ho' := HO.out hs0; simp at ho' ⊢; omega)).mono ?_
      rintro e w4 ⟨rfl, A4⟩
      clear A3
      have Ac1 := A4.c1
      have Aln := A4.len.2
      have HT' := HT.out
      have HO' := HO.out
      clear HT HO
      cases HRES.out with
      | u k =>
        simp only [List.length_cons] at Aln
        have HT := Lib.hid HT'
        clear HO' HT'
        go_wp2_with fail
        refine (A4.adv 117).mono ?_
        rintro e w5 ⟨rfl, A5⟩
        go_wp2_with fail
        go_end0
        exact ⟨rfl, (A5.mono fun l e => by rw [e]; decide).to rfl (by rw [HT.out]; simp)⟩
      | t c' l' _ tx hc' hs =>
        simp only [List.length_cons] at Aln
        have hc'' : ((c'.toNat : Int) == 117) = false := by rw [beq_eq_false_iff_ne]; omega
        have HT := Lib.hid HT'
        have HO := Lib.hid HO'
        clear HO' HT' hc'
        go_wp2_with fail
        refine (A4.ws [32, 45, 62, 32] (by simp) (fun hs0 => by have ho' := HO.out hs0; simp at ho' ⊢; omega)).mono ?_
        rintro e w5 ⟨rfl, A5⟩
        clear A4 Ac1 Aln
        go_wp2_with fail
        refine (A5.says hs HSK.out rfl (fun hs0 => by have ho' := HO.out hs0; simp at ho' ⊢; omega)).mono ?_
        rintro e w6 ⟨rfl, A6⟩
        go_wp2_with fail
        go_end0
        exact ⟨rfl, A6.to rfl (by rw [HT.out]; simp)⟩
    | cons c' l' k2 _ t ts2 hc' hs hrun =>
      have Ac1 := A.c1
      have Aln := A.len.2
      simp only [List.length_cons] at Aln
      have hc'' : ((c'.toNat : Int) != 69) = true := by simp; omega
      have HTX := Lib.hid htx
      have HRUN := Lib.hid hrun
      clear htx hc' hrun
      cases first with
      | true =>
        go_wp2_with fail
        refine (A.says hs HSK.out rfl ?_).mono ?_
        · intro hs0; have a := HO.out hs0; have b := congrArg List.length HTX.out; simp [joined] at a b ⊢; omega
        rintro e w1 ⟨rfl, A'⟩
        go_wp2_with fail
        go_roundg (ts2.length + 1)
        case measure => simp
        case rel => exact ⟨false, k2, txt' ++ t, ts2, rfl, rfl, HRUN.out, by rw [HTX.out]; simp [joined], A'⟩
      | false =>
        go_wp2_with fail
        refine (A.ws [44, 32] (by simp) ?_).mono ?_
        · intro hs0; have a := HO.out hs0; have b := congrArg List.length HTX.out; simp [tailText] at a b ⊢; omega
        rintro e w1 ⟨rfl, A'⟩
        go_wp2_with fail
        refine (A'.says hs HSK.out rfl ?_).mono ?_
        · intro hs0; have a := HO.out hs0; have b := congrArg List.length HTX.out; simp [tailText] at a b ⊢; omega
        rintro e w2 ⟨rfl, A''⟩
        go_wp2_with fail
        go_roundg (ts2.length + 1)
        case measure => simp
        case rel => exact ⟨false, k2, txt' ++ [44, 32] ++ t, ts2, rfl, rfl, HRUN.out, by rw [HTX.out]; simp [tailText], A''⟩

set_option maxHeartbeats 4000000 in
set_option maxRecDepth 100000 in
theorem fnSig_UI (lb lb' : Nat) (sk : Bool) (d : UInt8) (dl nm : List UInt8) (inp l k k1 tb txt : List UInt8) (c : UInt8) (ts : List (List UInt8)) (rt : List UInt8) (hb : SaysL 120 #[] lb lb' sk inp (85 :: 75 :: d :: dl) tb T0) (hc1 : c.toNat ≠ 85) (hc2 : c.toNat ≠ 75) (h : Run 86 lb' sk (c :: l) (69 :: k1) ts) (hr : Res lb' sk k1 k rt) (hd : d.toNat ≠ 67) (hu : Undis (d :: dl) (c :: l) nm false) (hnm : nm.length ≤ 1000) (htxt : txt = (tb ++ ([117, 110, 115, 97, 102, 101, 32] ++ ([101, 120, 116, 101, 114, 110, 32, 34] ++ (nm.map rep ++ ([34, 32] ++ ([102, 110, 40])))))) ++ (joined [44, 32] ts ++ (41 :: rt))) :
    SaysL 107 #[] lb lb' sk inp k txt NS := by
  intro B b r w hr0 hsk hlb hi ho
  have hln := hr0.len
  have ho' := ho
  rw [htxt] at ho'
  have HO := Lib.hid ho'
  clear ho ho'
  have HI := Lib.hid hi
  have HSK := Lib.hid hsk
  have HLB := Lib.hid hlb
  have HT := Lib.hid htxt
  have HR := Lib.hid h
  have HRES := Lib.hid hr
  have hc1' : ((c.toNat : Int) == 85) = false := by rw [beq_eq_false_iff_ne]; omega
  have hc2' : ((c.toNat : Int) == 75) = false := by rw [beq_eq_false_iff_ne]; omega
  have hd' : ((d.toNat : Int) == 67) = false := by rw [beq_eq_false_iff_ne]; omega
  have HNM := Lib.hid hnm
  clear hd hnm
  clear hi hsk hlb htxt h hr hc1 hc2
  have A := At.start hr0
  rw [HI.out] at A
  go_enter Tryz.func107, Tryz.ntmps107
  go_wp2_with fail
  refine (A.saysL hb HSK.out HLB.out (fun hs0 => by have ho' := HO.out hs0; simp at ho' ⊢; omega)).mono ?_
  rintro e w1 ⟨rfl, A'⟩
  clear A; have A := A'; clear A'
  have Ac1 := A.c1
  have Aln := A.len.2
  try simp only [List.length_cons] at Aln
  try simp only [List.length_append] at Aln
  try simp only [List.cons_append] at Ac1
  try simp only [List.nil_append] at Ac1
  go_wp2_with fail
  refine (A.adv 85).mono ?_
  rintro e w2 ⟨rfl, A'⟩
  clear Ac1 Aln
  clear A; have A := A'; clear A'
  go_wp2_with fail
  refine (A.ws [117, 110, 115, 97, 102, 101, 32] (by simp) (fun hs0 => by have ho' := HO.out hs0; simp at ho' ⊢; omega)).mono ?_
  rintro e w3 ⟨rfl, A'⟩
  clear A; have A := A'; clear A'
  have Ac1 := A.c1
  have Aln := A.len.2
  try simp only [List.length_cons] at Aln
  try simp only [List.length_append] at Aln
  try simp only [List.cons_append] at Ac1
  try simp only [List.nil_append] at Ac1
  go_wp2_with fail
  refine (A.adv 75).mono ?_
  rintro e w4 ⟨rfl, A'⟩
  clear Ac1 Aln
  clear A; have A := A'; clear A'
  have Ac1 := A.c1
  have Aln := A.len.2
  try simp only [List.length_cons] at Aln
  try simp only [List.length_append] at Aln
  try simp only [List.cons_append] at Ac1
  try simp only [List.nil_append] at Ac1
  go_wp2_with fail
  refine (A.ws [101, 120, 116, 101, 114, 110, 32, 34] (by simp) (fun hs0 => by have ho' := HO.out hs0; simp at ho' ⊢; omega)).mono ?_
  rintro e w5 ⟨rfl, A'⟩
  clear Ac1 Aln
  clear A; have A := A'; clear A'
  go_wp2_with fail
  refine (hu B b _ _ _ _ _ A).mono ?_
  rintro e w6 ⟨rfl, A'⟩
  clear A; have A := A'; clear A'
  go_wp2_with fail
  refine (replace_any nm rep (fun x => rfl) (by have := HNM.out; omega) _).mono ?_
  rintro e wz ⟨rfl, bz⟩
  have A' := A.below bz
  clear A bz; have A := A'; clear A'
  go_wp2_with fail
  refine (A.ws0 (nm.map rep) (fun hs0 => by have ho' := HO.out hs0; simp at ho' ⊢; omega)).mono ?_
  rintro e w7 ⟨rfl, A'⟩
  clear A; have A := A'; clear A'
  go_wp2_with fail
  refine (A.ws [34, 32] (by simp) (fun hs0 => by have ho' := HO.out hs0; simp at ho' ⊢; omega)).mono ?_
  rintro e w8 ⟨rfl, A'⟩
  clear A; have A := A'; clear A'
  go_wp2_with fail
  refine (A.ws [102, 110, 40] (by simp) (fun hs0 => by have ho' := HO.out hs0; simp at ho' ⊢; omega)).mono ?_
  rintro e w9 ⟨rfl, A'⟩
  clear A; have A := A'; clear A'
  have AP := (A.mono (G' := T0) fun _ _ => trivial).to rfl (show _ = tb ++ ([117, 110, 115, 97, 102, 101, 32] ++ ([101, 120, 116, 101, 114, 110, 32, 34] ++ (nm.map rep ++ ([34, 32] ++ ([102, 110, 40]))))) by simp)
  clear A
  have A := AP
  clear AP
  obtain ⟨pt, hpt⟩ : ∃ pt, pt = tb ++ ([117, 110, 115, 97, 102, 101, 32] ++ ([101, 120, 116, 101, 114, 110, 32, 34] ++ (nm.map rep ++ ([34, 32] ++ ([102, 110, 40]))))) := ⟨_, rfl⟩
  rw [← hpt] at A
  have ht2 := HT.out
  have ho2 := HO.out
  rw [← hpt] at ht2 ho2
  clear HT HO
  have HT := Lib.hid ht2
  have HO := Lib.hid ho2
  clear ht2 ho2 hpt
  go_wp2_with fail
  go_loopg [4] (ts.length + 1) (fun n f wr => ∃ (first : Bool) (inp' txt' : List UInt8) (ts' : List (List UInt8)), n = ts'.length + 1 ∧ f = .bool first ∧ Run 86 lb' sk inp' (69 :: k1) ts' ∧
    pt ++ joined [44, 32] ts = txt' ++ (if first then joined [44, 32] ts' else tailText [44, 32] ts') ∧ At B b (r.lives lb') w inp' txt' T0 wr)
  case atStart => exact ⟨true, c :: l, pt, ts, rfl, rfl, HR.out, rfl, A⟩
  case round =>
    obtain ⟨first, inp', txt', ts', rfl, rfl, hrun, htx, A⟩ := hrel
    cases hrun with
    | nil =>
      have Ac1 := A.c1
      have Aln := A.len.2
      simp only [List.length_cons] at Aln
      have htx' : txt' = pt ++ joined [44, 32] ts := by rw [htx]; cases first <;> simp [joined, tailText]
      subst htx'
      clear htx
      go_wp2_with fail
      refine (A.chk 69 69 rfl).mono ?_
      rintro e w3 ⟨rfl, A3⟩
      clear A Ac1 Aln
      go_wp2_with fail
      refine (A3.wb 41 41 rfl (fun hs0 => by have ho' := HO.out hs0; simp at ho' ⊢; omega)).mono ?_
      rintro e w4 ⟨rfl, A4⟩
      clear A3
      have Ac1 := A4.c1
      have Aln := A4.len.2
      have HT' := HT.out
      have HO' := HO.out
      clear HT HO
      cases HRES.out with
      | u k =>
        simp only [List.length_cons] at Aln
        have HT := Lib.hid HT'
        clear HO' HT'
        go_wp2_with fail
        refine (A4.adv 117).mono ?_
        rintro e w5 ⟨rfl, A5⟩
        go_wp2_with fail
        go_end0
        exact ⟨rfl, (A5.mono fun l e => by rw [e]; decide).to rfl (by rw [HT.out]; simp)⟩
      | t c' l' _ tx hc' hs =>
        simp only [List.length_cons] at Aln
        have hc'' : ((c'.toNat : Int) == 117) = false := by rw [beq_eq_false_iff_ne]; omega
        have HT := Lib.hid HT'
        have HO := Lib.hid HO'
        clear HO' HT' hc'
        go_wp2_with fail
        refine (A4.ws [32, 45, 62, 32] (by simp) (fun hs0 => by have ho' := HO.out hs0; simp at ho' ⊢; omega)).mono ?_
        rintro e w5 ⟨rfl, A5⟩
        clear A4 Ac1 Aln
        go_wp2_with fail
        refine (A5.says hs HSK.out rfl (fun hs0 => by have ho' := HO.out hs0; simp at ho' ⊢; omega)).mono ?_
        rintro e w6 ⟨rfl, A6⟩
        go_wp2_with fail
        go_end0
        exact ⟨rfl, A6.to rfl (by rw [HT.out]; simp)⟩
    | cons c' l' k2 _ t ts2 hc' hs hrun =>
      have Ac1 := A.c1
      have Aln := A.len.2
      simp only [List.length_cons] at Aln
      have hc'' : ((c'.toNat : Int) != 69) = true := by simp; omega
      have HTX := Lib.hid htx
      have HRUN := Lib.hid hrun
      clear htx hc' hrun
      cases first with
      | true =>
        go_wp2_with fail
        refine (A.says hs HSK.out rfl ?_).mono ?_
        · intro hs0; have a := HO.out hs0; have b := congrArg List.length HTX.out; simp [joined] at a b ⊢; omega
        rintro e w1 ⟨rfl, A'⟩
        go_wp2_with fail
        go_roundg (ts2.length + 1)
        case measure => simp
        case rel => exact ⟨false, k2, txt' ++ t, ts2, rfl, rfl, HRUN.out, by rw [HTX.out]; simp [joined], A'⟩
      | false =>
        go_wp2_with fail
        refine (A.ws [44, 32] (by simp) ?_).mono ?_
        · intro hs0; have a := HO.out hs0; have b := congrArg List.length HTX.out; simp [tailText] at a b ⊢; omega
        rintro e w1 ⟨rfl, A'⟩
        go_wp2_with fail
        refine (A'.says hs HSK.out rfl ?_).mono ?_
        · intro hs0; have a := HO.out hs0; have b := congrArg List.length HTX.out; simp [tailText] at a b ⊢; omega
        rintro e w2 ⟨rfl, A''⟩
        go_wp2_with fail
        go_roundg (ts2.length + 1)
        case measure => simp
        case rel => exact ⟨false, k2, txt' ++ [44, 32] ++ t, ts2, rfl, rfl, HRUN.out, by rw [HTX.out]; simp [tailText], A''⟩

end Go.Proofs.YtidokamjbglkbaaGreatDoor

