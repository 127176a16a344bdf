/- Generic arguments, tuples and functions that do not end: the reader fails. -/
import Derived.Test.YtidokamjbglkbaaGreatDoorY32
import Derived.Test.YtidokamjbglkbaaGreatDoorY11
import Derived.Test.YtidokamjbglkbaaGreatDoorY10
import Derived.Test.YtidokamjbglkbaaGreatDoorY15
import Derived.Test.YtidokamjbglkbaaGreatDoorY16
import Derived.Test.YtidokamjbglkbaaGreatDoorY17
namespace Go.Proofs.YtidokamjbglkbaaGreatDoor
open Go.RowKit

/-- Parts one behind the other, up to the end of the name. -/
inductive RunX (f : FuncId) (lb : Nat) (sk : Bool) : List UInt8 → List (List UInt8) → Prop
  | nil : RunX f lb sk [] []
  | cons (c : UInt8) (l k1 t : List UInt8) (ts : List (List UInt8)) (hc : c.toNat ≠ 69) (h : Says f #[] lb sk (c :: l) k1 t T0) (r : RunX f lb sk k1 ts) : RunX f lb sk (c :: l) (t :: ts)

theorem conv69 (w : World) : (convert 5 9 (.int .u8 69)).run Tryz.prog w = .ok (.string ⟨#[69]⟩) w := by kernel_rfl
set_option maxHeartbeats 1000000 in
set_option maxRecDepth 100000 in
/-- No E at the end of the name. -/
theorem At.chk_end {B b : Nat} {r0 : RS} {w0 w : World} {txt : List UInt8} {G : Nat → Prop} (h : At B b r0 w0 [] txt G w) :
    Calls Tryz.prog 89 #[.pointer (some ⟨b, 0, none⟩), .int .u8 69] w fun e w' => Died e ∧ Kept B w0 w' := by
  have c1 := h.c1
  have H := Lib.hid h
  have q := conv69 w
  clear h
  go_enter Tryz.func89, Tryz.ntmps89
  go_wp2_with (go_at_call 57; refine (H.out.failed _).mono ?_)
  rintro e w1 ⟨⟨s, off, rfl⟩, kk⟩
  go_wp2
  exact ⟨rfl, ⟨_, _, rfl⟩, kk⟩

set_option maxHeartbeats 4000000 in
set_option maxRecDepth 100000 in
theorem genericArgs_end (lb : Nat) (sk : Bool) (inp txt : List UInt8) (ts : List (List UInt8)) (h : RunX 111 lb sk inp ts) (htxt : txt = joined [44, 32] ts) :
    Says 88 #[] lb sk inp [] txt T0 := by
  intro B b r w hr hsk hlb hi ho
  have c8 : w.cell? ⟨b, 8, none⟩ = some (.bool false) := by obtain ⟨ad, buf, h'⟩ := hr; exact h'.c8
  have hlt := hr.lt
  have A := At.start (hr.alloc (.cells #[.pointer (some ⟨b, 0, none⟩)] 82))
  have B0 := Box.new w 82 (.pointer (some ⟨b, 0, none⟩))
  rw [hi] at A
  have HI := Lib.hid hi
  have HSK := Lib.hid hsk
  have HLB := Lib.hid hlb
  have HO := Lib.hid ho
  have HT := Lib.hid htxt
  have HR := Lib.hid h
  clear hi hsk hlb htxt ho h
  go_enter Tryz.func88, Tryz.ntmps88
  go_wp2_with fail
  go_loopg [3] (ts.length + 1) (fun n f wr => ∃ (first : Bool) (inp' txt' : List UInt8) (ts' : List (List UInt8)), n = ts'.length + 1 ∧ f = .bool first ∧ RunX 111 lb sk inp' ts' ∧
    txt = txt' ++ (if first then joined [44, 32] ts' else tailText [44, 32] ts') ∧ At B b r (w.alloc (.cells #[.pointer (some ⟨b, 0, none⟩)] 82)) inp' txt' T0 wr)
  case atStart => exact ⟨true, inp, [], ts, rfl, rfl, HR.out, HT.out, A.mono fun _ _ => trivial⟩
  case round =>
    obtain ⟨first, inp', txt', ts', rfl, rfl, hrun, htx, A⟩ := hrel
    clear c8 hlt
    cases hrun with
    | nil =>
      have cB0 := A.box B0 (by decide)
      have Ac1 := A.c1
      have HTX := Lib.hid htx
      clear htx
      go_wp2_with fail
      go_end0
      exact (A.to rfl (by rw [HTX.out]; cases first <;> simp [joined, tailText])).post HI.out ((Kept.refl B w).alloc _)
    | cons c l k1 t ts2 hc hs hrun =>
      have cB0 := A.box B0 (by decide)
      have Ac1 := A.c1
      have Aln := A.len.2
      simp only [List.length_cons] at Aln
      have hc' : ((c.toNat : Int) != 69) = true := by simp; omega
      have HTX := Lib.hid htx
      have HRUN := Lib.hid hrun
      clear htx hc hrun
      cases first with
      | true =>
        go_wp2_with fail
        refine (A.says hs HSK.out HLB.out ?_).mono ?_
        · intro hs0; have a := HO.out hs0; rw [HTX.out] at a; simp [joined] at a ⊢; omega
        rintro e w1 ⟨rfl, A'⟩
        go_wp2_with fail
        go_roundg (ts2.length + 1)
        case measure => simp
        case rel => exact ⟨false, k1, txt' ++ t, ts2, rfl, rfl, HRUN.out, by rw [HTX.out]; simp [joined], A'⟩
      | false =>
        go_wp2_with fail
        refine (A.ws [44, 32] (by simp) ?_).mono ?_
        · intro hs0; have a := HO.out hs0; rw [HTX.out] at a; simp [tailText] at a ⊢; omega
        rintro e w1 ⟨rfl, A'⟩
        clear cB0 Ac1
        have cB0 := A'.box B0 (by decide)
        go_wp2_with fail
        refine (A'.says hs HSK.out HLB.out ?_).mono ?_
        · intro hs0; have a := HO.out hs0; rw [HTX.out] at a; simp [tailText] at a ⊢; omega
        rintro e w2 ⟨rfl, A''⟩
        go_wp2_with fail
        go_roundg (ts2.length + 1)
        case measure => simp
        case rel => exact ⟨false, k1, txt' ++ [44, 32] ++ t, ts2, rfl, rfl, HRUN.out, by rw [HTX.out]; simp [tailText], A''⟩

set_option maxHeartbeats 4000000 in
set_option maxRecDepth 100000 in
theorem path_I_end (lb : Nat) (sk : Bool) (inp k1 t1 t2 txt : List UInt8) (G1 G2 : Nat → Prop) (h1 : Says 74 #[.bool true] lb sk inp k1 t1 G1) (h2 : Says 88 #[] lb sk k1 [] t2 G2)
    (htxt : txt = t1 ++ ([58, 58] ++ ([60] ++ (t2 ++ [62])))) : Refuses 74 #[.bool true] lb sk (73 :: inp) txt.length := by
  intro B b r w hr hsk hlb hi ho
  have c1 : w.cell? ⟨b, 1, none⟩ = some (.string (bs r.str)) := by obtain ⟨ad, buf, h'⟩ := hr; exact h'.c1
  rw [hi] at c1
  have hlt := hr.lt
  have hln := hr.len
  rw [hi] at hln
  simp only [List.length_cons] at hln
  have ho' := ho
  rw [htxt] at ho'
  have HO := Lib.hid ho'
  clear ho ho'
  have HI := Lib.hid hi
  have HSK := Lib.hid hsk
  have HLB := Lib.hid hlb
  have HT := Lib.hid htxt
  clear hi hsk hlb htxt
  have A := At.start ((hr.alloc (.cells #[.pointer (some ⟨b, 0, none⟩)] 82)).alloc (.cells #[.bool true] 4))
  obtain ⟨B0, B1⟩ := boxes2 w 82 4 (.pointer (some ⟨b, 0, none⟩)) (.bool true)
  rw [HI.out] at A
  go_enter Tryz.func74, Tryz.ntmps74
  go_wp2_with fail
  refine (A.adv 73).mono ?_
  rintro e w1 ⟨rfl, A'⟩
  clear c1 hlt
  clear A; have A := A'; clear A'
  have cB0 := A.box B0 (by decide)
  have cB1 := A.box B1 (by decide)
  go_wp2_with fail
  refine (A.says h1 HSK.out HLB.out (fun hs0 => by have ho' := HO.out hs0; simp at ho' ⊢; omega)).mono ?_
  rintro e w2 ⟨rfl, A'⟩
  clear cB0 cB1
  clear A; have A := A'; clear A'
  have cB0 := A.box B0 (by decide)
  have cB1 := A.box B1 (by decide)
  go_wp2_with fail
  refine (A.ws [58, 58] (by simp) (fun hs0 => by have ho' := HO.out hs0; simp at ho' ⊢; omega)).mono ?_
  rintro e w3 ⟨rfl, A'⟩
  clear cB0 cB1
  clear A; have A := A'; clear A'
  have cB0 := A.box B0 (by decide)
  go_wp2_with fail
  refine (A.wb 60 60 rfl (fun hs0 => by have ho' := HO.out hs0; simp at ho' ⊢; omega)).mono ?_
  rintro e w4 ⟨rfl, A'⟩
  clear cB0
  clear A; have A := A'; clear A'
  have cB0 := A.box B0 (by decide)
  go_wp2_with fail
  refine (A.says h2 HSK.out HLB.out (fun hs0 => by have ho' := HO.out hs0; simp at ho' ⊢; omega)).mono ?_
  rintro e w5 ⟨rfl, A'⟩
  clear cB0
  clear A; have A := A'; clear A'
  have cB0 := A.box B0 (by decide)
  go_wp2_with fail
  refine (A.wb 62 62 rfl (fun hs0 => by have ho' := HO.out hs0; simp at ho' ⊢; omega)).mono ?_
  rintro e w6 ⟨rfl, A'⟩
  clear cB0
  clear A; have A := A'; clear A'
  have cB0 := A.box B0 (by decide)
  go_wp2_with fail
  refine A.chk_end.mono ?_
  rintro e w9 ⟨⟨s, off, rfl⟩, kk⟩
  go_wp2
  exact ⟨rfl, ⟨_, _, rfl⟩, (((Kept.refl B w).alloc _).alloc _).trans kk⟩

set_option maxHeartbeats 4000000 in
set_option maxRecDepth 100000 in
theorem path_I_dies (lb : Nat) (sk : Bool) (inp k1 t1 txt : List UInt8) (n : Nat) (G1 : Nat → Prop) (h1 : Says 74 #[.bool true] lb sk inp k1 t1 G1) (h2 : Refuses 88 #[] lb sk k1 n)
    (htxt : txt = t1 ++ [58, 58, 60]) : Refuses 74 #[.bool true] lb sk (73 :: inp) (txt.length + n) := by
  intro B b r w hr hsk hlb hi ho
  have c1 : w.cell? ⟨b, 1, none⟩ = some (.string (bs r.str)) := by obtain ⟨ad, buf, h'⟩ := hr; exact h'.c1
  rw [hi] at c1
  have hlt := hr.lt
  have hln := hr.len
  rw [hi] at hln
  simp only [List.length_cons] at hln
  have ho' := ho
  rw [htxt] at ho'
  have HO := Lib.hid ho'
  clear ho ho'
  have HI := Lib.hid hi
  have HSK := Lib.hid hsk
  have HLB := Lib.hid hlb
  have HT := Lib.hid htxt
  clear hi hsk hlb htxt
  have A := At.start ((hr.alloc (.cells #[.pointer (some ⟨b, 0, none⟩)] 82)).alloc (.cells #[.bool true] 4))
  obtain ⟨B0, B1⟩ := boxes2 w 82 4 (.pointer (some ⟨b, 0, none⟩)) (.bool true)
  rw [HI.out] at A
  go_enter Tryz.func74, Tryz.ntmps74
  go_wp2_with fail
  refine (A.adv 73).mono ?_
  rintro e w1 ⟨rfl, A'⟩
  clear c1 hlt
  clear A; have A := A'; clear A'
  have cB0 := A.box B0 (by decide)
  have cB1 := A.box B1 (by decide)
  go_wp2_with fail
  refine (A.says h1 HSK.out HLB.out (fun hs0 => by have ho' := HO.out hs0; simp at ho' ⊢; omega)).mono ?_
  rintro e w2 ⟨rfl, A'⟩
  clear cB0 cB1
  clear A; have A := A'; clear A'
  have cB0 := A.box B0 (by decide)
  have cB1 := A.box B1 (by decide)
  go_wp2_with fail
  refine (A.ws [58, 58] (by simp) (fun hs0 => by have ho' := HO.out hs0; simp at ho' ⊢; omega)).mono ?_
  rintro e w3 ⟨rfl, A'⟩
  clear cB0 cB1
  clear A; have A := A'; clear A'
  have cB0 := A.box B0 (by decide)
  go_wp2_with fail
  refine (A.wb 60 60 rfl (fun hs0 => by have ho' := HO.out hs0; simp at ho' ⊢; omega)).mono ?_
  rintro e w4 ⟨rfl, A'⟩
  clear cB0
  clear A; have A := A'; clear A'
  have cB0 := A.box B0 (by decide)
  go_wp2_with fail
  refine (A.refuse h2 HSK.out HLB.out (fun hs0 => by have ho' := HO.out hs0; simp at ho' ⊢; omega)).mono ?_
  rintro e w9 ⟨⟨s, off, rfl⟩, kk⟩
  go_wp2
  exact ⟨rfl, ⟨_, _, rfl⟩, (((Kept.refl B w).alloc _).alloc _).trans kk⟩

set_option maxHeartbeats 4000000 in
set_option maxRecDepth 100000 in
theorem genericArg_dies (lb : Nat) (sk : Bool) (c : UInt8) (inp : List UInt8) (n : Nat) (h : Refuses 86 #[] lb sk (c :: inp) n) (hL : ((c.toNat : Int) == 76) = false) (hK : ((c.toNat : Int) == 75) = false) :
    Refuses 111 #[] lb sk (c :: inp) n := by
  intro B b r w hr hsk hlb hi ho
  have c1 : w.cell? ⟨b, 1, none⟩ = some (.string (bs r.str)) := by obtain ⟨ad, buf, h'⟩ := hr; exact h'.c1
  rw [hi] at c1
  have HI := Lib.hid hi
  have HSK := Lib.hid hsk
  have HLB := Lib.hid hlb
  have A := At.start hr
  rw [hi] at A
  have HO := Lib.hid ho
  clear hi hsk hlb ho
  go_enter Tryz.func111, Tryz.ntmps111
  go_wp2_with fail
  refine (A.refuse h HSK.out HLB.out (fun e => by simpa using HO.out e)).mono ?_
  rintro e w9 ⟨⟨s, off, rfl⟩, kk⟩
  go_wp2
  exact ⟨rfl, ⟨_, _, rfl⟩, kk⟩

set_option maxHeartbeats 4000000 in
set_option maxRecDepth 100000 in
theorem genericArgs_dies (lb : Nat) (sk : Bool) (c : UInt8) (l : List UInt8) (n : Nat) (hc : c.toNat ≠ 69) (h : Refuses 111 #[] lb sk (c :: l) n) : Refuses 88 #[] lb sk (c :: l) n := by
  intro B b r w hr hsk hlb hi ho
  have c8 : w.cell? ⟨b, 8, none⟩ = some (.bool false) := by obtain ⟨ad, buf, h'⟩ := hr; exact h'.c8
  have hlt := hr.lt
  have A := At.start (hr.alloc (.cells #[.pointer (some ⟨b, 0, none⟩)] 82))
  have B0 := Box.new w 82 (.pointer (some ⟨b, 0, none⟩))
  rw [hi] at A
  have HSK := Lib.hid hsk
  have HLB := Lib.hid hlb
  have HO := Lib.hid ho
  have HA := Lib.hid A
  have HB := Lib.hid B0
  have hc' : ((c.toNat : Int) != 69) = true := by simp; omega
  clear hi hsk hlb ho A B0 hc
  go_enter Tryz.func88, Tryz.ntmps88
  go_wp2_with fail
  go_loopg [3] 1 (fun n f wr => n = 1 ∧ f = .bool true ∧ wr = w.alloc (.cells #[.pointer (some ⟨b, 0, none⟩)] 82))
  case atStart => exact ⟨rfl, rfl, rfl⟩
  case round =>
    obtain ⟨rfl, rfl, rfl⟩ := hrel
    have A := HA.out
    have cB0 := A.box HB.out (by decide)
    have Ac1 := A.c1
    have Aln := A.len.2
    simp only [List.length_cons] at Aln
    clear c8 hlt
    go_wp2_with fail
    refine (HA.out.refuse h HSK.out HLB.out (fun e => by simpa using HO.out e)).mono ?_
    rintro e w9 ⟨⟨s, off, rfl⟩, kk⟩
    go_wp2
    exact ⟨rfl, ⟨_, _, rfl⟩, ((Kept.refl B w).alloc _).trans kk⟩

set_option maxHeartbeats 4000000 in
set_option maxRecDepth 100000 in
theorem type_T_end (lb : Nat) (sk : Bool) (inp txt : List UInt8) (ts : List (List UInt8)) (h : RunX 86 lb sk inp ts) (hts : ts.length ≤ 1000000) (htxt : txt = 40 :: (joined [44, 32] ts ++ ((if ts.length = 1 then [44] else []) ++ [41]))) :
    Refuses 86 #[] lb sk (84 :: inp) txt.length := by
  intro B b r w hr hsk hlb hi ho
  have c1 : w.cell? ⟨b, 1, none⟩ = some (.string (bs r.str)) := by obtain ⟨ad, buf, h'⟩ := hr; exact h'.c1
  rw [hi] at c1
  have hln := hr.len
  rw [hi] at hln
  simp only [List.length_cons] at hln
  have A := At.start hr
  rw [hi] at A
  have HI := Lib.hid hi
  have HSK := Lib.hid hsk
  have HLB := Lib.hid hlb
  have HO := Lib.hid ho
  have HT := Lib.hid htxt
  have HR := Lib.hid h
  clear hi hsk hlb htxt ho h
  go_enter Tryz.func86, Tryz.ntmps86
  go_wp2_with fail
  refine (A.adv 84).mono ?_
  rintro e w1 ⟨rfl, A'⟩
  clear c1; clear A; have A := A'; clear A'
  go_wp2_with fail
  refine (A.wb 40 40 rfl (fun hs0 => by have a := HO.out hs0; rw [HT.out] at a; simp at a ⊢; omega)).mono ?_
  rintro e w2 ⟨rfl, A'⟩
  clear A; have A := A'; clear A'
  go_wp2_with fail
  go_loopg [3] (ts.length + 1) (fun n c wr => ∃ (cnt : Nat) (inp' txt' : List UInt8) (ts' : List (List UInt8)), n = ts'.length + 1 ∧ c = .int .i64 cnt ∧ RunX 86 lb sk inp' ts' ∧ cnt + ts'.length = ts.length ∧
    40 :: joined [44, 32] ts = txt' ++ (if cnt = 0 then joined [44, 32] ts' else tailText [44, 32] ts') ∧ At B b r w inp' txt' (fun _ => True) wr)
  case atStart => exact ⟨0, inp, [] ++ [40], ts, rfl, rfl, HR.out, by simp, by simp, A.mono fun _ _ => trivial⟩
  case round =>
    obtain ⟨cnt, inp', txt', ts', rfl, rfl, hrun, hcnt, htx, A⟩ := hrel
    cases hrun with
    | nil =>
      have Ac1 := A.c1
      have htx' : txt' = 40 :: joined [44, 32] ts := by rw [htx]; split <;> simp [joined, tailText]
      simp only [List.length_nil, Nat.add_zero] at hcnt
      have HTX := Lib.hid htx'
      clear htx htx'
      by_cases h1 : cnt = 1
      · have HC := Lib.hid (hcnt.symm.trans h1)
        subst h1
        clear hcnt
        go_wp2_with fail
        refine (A.wb 44 44 rfl (fun hs0 => by have a := HO.out hs0; rw [HT.out, if_pos HC.out] at a; rw [HTX.out]; simp at a ⊢; omega)).mono ?_
        rintro e w3 ⟨rfl, A3⟩
        clear A Ac1
        go_wp2_with fail
        refine (A3.wb 41 41 rfl (fun hs0 => by have a := HO.out hs0; rw [HT.out, if_pos HC.out] at a; rw [HTX.out]; simp at a ⊢; omega)).mono ?_
        rintro e w4 ⟨rfl, A4⟩
        go_wp2_with fail
        refine A4.chk_end.mono ?_
        rintro e w9 ⟨⟨s, off, rfl⟩, kk⟩
        go_wp2
        exact ⟨rfl, ⟨_, _, rfl⟩, kk⟩
      · have h1' : ((cnt : Int) == 1) = false := by rw [beq_eq_false_iff_ne]; omega
        have HC := Lib.hid (show ts.length ≠ 1 by omega)
        clear hcnt h1
        go_wp2_with fail
        refine (A.wb 41 41 rfl (fun hs0 => by have a := HO.out hs0; rw [HT.out, if_neg HC.out] at a; rw [HTX.out]; simp at a ⊢; omega)).mono ?_
        rintro e w4 ⟨rfl, A4⟩
        go_wp2_with fail
        refine A4.chk_end.mono ?_
        rintro e w9 ⟨⟨s, off, rfl⟩, kk⟩
        go_wp2
        exact ⟨rfl, ⟨_, _, rfl⟩, kk⟩
    | cons c l k1 t ts2 hc hs hrun =>
      have Ac1 := A.c1
      have Aln := A.len.2
      simp only [List.length_cons] at Aln
      have hc' : ((c.toNat : Int) != 69) = true := by simp; omega
      have HRUN := Lib.hid hrun
      simp only [List.length_cons] at hcnt
      have hcb : cnt ≤ 1000000 := by omega
      have HTX := Lib.hid htx
      have HCN := Lib.hid hcnt
      clear htx hc hrun hcnt
      by_cases h0 : cnt = 0
      · subst h0
        go_wp2_with fail
        refine (A.says hs HSK.out HLB.out ?_).mono ?_
        · intro hs0; have a := HO.out hs0; rw [HT.out] at a; have b := congrArg List.length HTX.out; simp [joined] at a b ⊢; omega
        rintro e w1 ⟨rfl, A'⟩
        go_wp2_with fail
        go_roundg (ts2.length + 1)
        case measure => simp
        case rel => exact ⟨1, k1, txt' ++ t, ts2, rfl, rfl, HRUN.out, by have := HCN.out; omega, by rw [HTX.out]; simp [joined], A'⟩
      · have h0' : (0 : Int) < cnt := by omega
        have HC0 := Lib.hid h0
        clear h0
        go_wp2_with fail
        refine (A.ws [44, 32] (by simp) ?_).mono ?_
        · intro hs0; have a := HO.out hs0; rw [HT.out] at a; have b := congrArg List.length HTX.out; rw [if_neg HC0.out] at b; simp [tailText] at a b ⊢; omega
        rintro e w1 ⟨rfl, A'⟩
        go_wp2_with fail
        refine (A'.says hs HSK.out HLB.out ?_).mono ?_
        · intro hs0; have a := HO.out hs0; rw [HT.out] at a; have b := congrArg List.length HTX.out; rw [if_neg HC0.out] at b; simp [tailText] at a b ⊢; omega
        rintro e w2 ⟨rfl, A''⟩
        go_wp2_with fail
        go_roundg (ts2.length + 1)
        case measure => simp
        case rel => exact ⟨cnt + 1, k1, txt' ++ [44, 32] ++ t, ts2, rfl, by simp, HRUN.out, by have := HCN.out; omega, by rw [HTX.out, if_neg HC0.out, if_neg (by omega)]; simp [tailText], A''⟩

set_option maxHeartbeats 4000000 in
set_option maxRecDepth 100000 in
theorem binder_end (lb : Nat) (sk : Bool) : SaysL 120 #[] lb lb sk [] [] [] (fun _ => True) := by
  intro B b r w hr hsk hlb hi ho
  have c1 : w.cell? ⟨b, 1, none⟩ = some (.string (bs r.str)) := by obtain ⟨ad, buf, h'⟩ := hr; exact h'.c1
  rw [hi] at c1
  have HI := Lib.hid hi
  have HLB := Lib.hid hlb
  have A := At.start hr
  rw [hi] at A
  have HA := Lib.hid A
  clear hi hsk hlb ho A
  go_enter Tryz.func120, Tryz.ntmps120
  go_wp2
  first | go_end0 | refine bodyPost_ret (results_none rfl _ _ _) rfl ?_
  refine ⟨rfl, ?_⟩
  have h := HA.out.mono (G' := fun _ => True) fun _ _ => trivial
  have e : r.lives lb = r := by rw [← HLB.out]; exact RS.lives_self r
  rw [e]
  exact h

set_option maxHeartbeats 4000000 in
set_option maxRecDepth 100000 in
theorem fnSig_end (lb : Nat) (sk : Bool) (l txt : List UInt8) (c : UInt8) (ts : List (List UInt8)) (hb0 : ((c.toNat : Int) != 71) = true) (hc1 : c.toNat ≠ 85) (hc2 : c.toNat ≠ 75) (h : RunX 86 lb sk (c :: l) ts) (htxt : txt = ([] ++ ([102, 110, 40])) ++ joined [44, 32] ts) :
    Refuses 107 #[] lb sk (c :: l) txt.length := by
  intro B b r w hr0 hsk hlb hi ho
  have hln := hr0.len
  have ho' := ho
  rw [htxt] at ho'
  have HO := Lib.hid ho'
  clear ho ho'
  have HI := Lib.hid hi
  have HSK := Lib.hid hsk
  have HLB := Lib.hid hlb
  have HT := Lib.hid htxt
  have HR := Lib.hid h
  have hc1' : ((c.toNat : Int) == 85) = false := by rw [beq_eq_false_iff_ne]; omega
  have hc2' : ((c.toNat : Int) == 75) = false := by rw [beq_eq_false_iff_ne]; omega
  clear hi hsk hlb htxt h hc1 hc2
  have A := At.start hr0
  rw [HI.out] at A
  go_enter Tryz.func107, Tryz.ntmps107
  go_wp2_with fail
  refine (A.saysL (binder_none lb sk c l hb0) HSK.out HLB.out (fun hs0 => by have ho' := HO.out hs0; simp at ho' ⊢; omega)).mono ?_
  rintro e w1 ⟨rfl, A'⟩
  clear A; have A := A'; clear A'
  have Ac1 := A.c1
  have Aln := A.len.2
  try simp only [List.length_cons] at Aln
  try simp only [List.length_append] at Aln
  try simp only [List.cons_append] at Ac1
  try simp only [List.nil_append] at Ac1
  go_wp2_with fail
  refine (A.ws [102, 110, 40] (by simp) (fun hs0 => by have ho' := HO.out hs0; simp at ho' ⊢; omega)).mono ?_
  rintro e w2 ⟨rfl, A'⟩
  clear Ac1 Aln
  clear A; have A := A'; clear A'
  have AP := (A.mono (G' := T0) fun _ _ => trivial).to rfl (show _ = [] ++ ([102, 110, 40]) by simp)
  clear A
  have A := AP
  clear AP
  obtain ⟨pt, hpt⟩ : ∃ pt : List UInt8, pt = [] ++ ([102, 110, 40]) := ⟨_, rfl⟩
  rw [← hpt] at A
  have ht2 := HT.out
  have ho2 := HO.out
  rw [← hpt] at ht2 ho2
  clear HT HO
  have HT := Lib.hid ht2
  have HO := Lib.hid ho2
  clear ht2 ho2 hpt
  go_wp2_with fail
  go_loopg [4] (ts.length + 1) (fun n f wr => ∃ (first : Bool) (inp' txt' : List UInt8) (ts' : List (List UInt8)), n = ts'.length + 1 ∧ f = .bool first ∧ RunX 86 lb sk inp' ts' ∧
    pt ++ joined [44, 32] ts = txt' ++ (if first then joined [44, 32] ts' else tailText [44, 32] ts') ∧ At B b (r.lives lb) w inp' txt' T0 wr)
  case atStart => exact ⟨true, c :: l, pt, ts, rfl, rfl, HR.out, rfl, A⟩
  case round =>
    obtain ⟨first, inp', txt', ts', rfl, rfl, hrun, htx, A⟩ := hrel
    cases hrun with
    | nil =>
      have Ac1 := A.c1
      clear htx
      go_wp2_with fail
      refine A.chk_end.mono ?_
      rintro e w9 ⟨⟨s, off, rfl⟩, kk⟩
      go_wp2
      exact ⟨rfl, ⟨_, _, rfl⟩, kk⟩
    | cons c' l' k2 t ts2 hc' hs hrun =>
      have Ac1 := A.c1
      have Aln := A.len.2
      simp only [List.length_cons] at Aln
      have hc'' : ((c'.toNat : Int) != 69) = true := by simp; omega
      have HTX := Lib.hid htx
      have HRUN := Lib.hid hrun
      clear htx hc' hrun
      cases first with
      | true =>
        go_wp2_with fail
        refine (A.says hs HSK.out rfl ?_).mono ?_
        · intro hs0; have a := HO.out hs0; have b := congrArg List.length HTX.out; simp [joined] at a b ⊢; omega
        rintro e w1 ⟨rfl, A'⟩
        go_wp2_with fail
        go_roundg (ts2.length + 1)
        case measure => simp
        case rel => exact ⟨false, k2, txt' ++ t, ts2, rfl, rfl, HRUN.out, by rw [HTX.out]; simp [joined], A'⟩
      | false =>
        go_wp2_with fail
        refine (A.ws [44, 32] (by simp) ?_).mono ?_
        · intro hs0; have a := HO.out hs0; have b := congrArg List.length HTX.out; simp [tailText] at a b ⊢; omega
        rintro e w1 ⟨rfl, A'⟩
        go_wp2_with fail
        refine (A'.says hs HSK.out rfl ?_).mono ?_
        · intro hs0; have a := HO.out hs0; have b := congrArg List.length HTX.out; simp [tailText] at a b ⊢; omega
        rintro e w2 ⟨rfl, A''⟩
        go_wp2_with fail
        go_roundg (ts2.length + 1)
        case measure => simp
        case rel => exact ⟨false, k2, txt' ++ [44, 32] ++ t, ts2, rfl, rfl, HRUN.out, by rw [HTX.out]; simp [tailText], A''⟩

set_option maxHeartbeats 4000000 in
set_option maxRecDepth 100000 in
theorem fnSig_end0 (lb : Nat) (sk : Bool) : Refuses 107 #[] lb sk [] 3 := by
  intro B b r w hr0 hsk hlb hi ho
  have HO := Lib.hid ho
  have HI := Lib.hid hi
  have HSK := Lib.hid hsk
  have HLB := Lib.hid hlb
  clear hi hsk hlb ho
  have A := At.start hr0
  rw [HI.out] at A
  go_enter Tryz.func107, Tryz.ntmps107
  go_wp2_with fail
  refine (A.saysL (binder_end lb sk) HSK.out HLB.out (fun hs0 => by have ho' := HO.out hs0; simp; omega)).mono ?_
  rintro e w1 ⟨rfl, A'⟩
  clear A; have A := A'; clear A'
  have Ac1 := A.c1
  go_wp2_with fail
  refine (A.ws [102, 110, 40] (by simp) (fun hs0 => by have ho' := HO.out hs0; simp at ho' ⊢; omega)).mono ?_
  rintro e w2 ⟨rfl, A'⟩
  clear Ac1
  have HA := Lib.hid A'
  clear A A'
  go_wp2_with fail
  go_loopg [4] 1 (fun n f wr => n = 1 ∧ wr = w2)
  case atStart => exact ⟨rfl, rfl⟩
  case round =>
    obtain ⟨rfl, rfl⟩ := hrel
    have Ac1 := HA.out.c1
    go_wp2_with fail
    refine HA.out.chk_end.mono ?_
    rintro e w9 ⟨⟨s, off, rfl⟩, kk⟩
    go_wp2
    exact ⟨rfl, ⟨_, _, rfl⟩, kk⟩

set_option maxHeartbeats 4000000 in
set_option maxRecDepth 100000 in
theorem type_F_dies (lb : Nat) (sk : Bool) (inp : List UInt8) (n : Nat) (h : Refuses 107 #[] lb sk inp n) : Refuses 86 #[] lb sk (70 :: inp) n := by
  intro B b r w hr hsk hlb hi ho
  have c1 : w.cell? ⟨b, 1, none⟩ = some (.string (bs r.str)) := by obtain ⟨ad, buf, h'⟩ := hr; exact h'.c1
  rw [hi] at c1
  have hlt := hr.lt
  have hln := hr.len
  rw [hi] at hln
  simp only [List.length_cons] at hln
  have HO := Lib.hid ho
  clear ho
  have HI := Lib.hid hi
  have HSK := Lib.hid hsk
  have HLB := Lib.hid hlb
  clear hi hsk hlb
  have c6 : w.cell? ⟨b, 6, none⟩ = some (.int .i64 r.life) := by obtain ⟨ad, buf, h'⟩ := hr; exact h'.c6
  rw [HLB.out] at c6
  have A := At.start hr
  rw [HI.out] at A
  go_enter Tryz.func86, Tryz.ntmps86
  go_wp2_with fail
  refine (A.adv 70).mono ?_
  rintro e w1 ⟨rfl, A'⟩
  clear c1 c6 hlt
  clear A; have A := A'; clear A'
  have Ac6 := A.c6
  have Af6 := A.fz 6
  go_wp2_with fail
  refine (A.refuse h HSK.out HLB.out (fun hs0 => by have ho' := HO.out hs0; simpa using ho')).mono ?_
  rintro e w9 ⟨⟨s, off, rfl⟩, kk⟩
  go_wp2
  exact ⟨rfl, ⟨_, _, rfl⟩, kk⟩

set_option maxHeartbeats 4000000 in
set_option maxRecDepth 100000 in
theorem symbol_dies (lb : Nat) (sk : Bool) (c : UInt8) (inp : List UInt8) (n : Nat) (hp : Refuses 74 #[.bool true] lb sk (c :: inp) n) (hc : c.toNat < 48 ∨ 57 < c.toNat) :
    Refuses 56 #[] lb sk (c :: inp) n := by
  intro B b r w hr hsk hlb hi ho
  have c1 : w.cell? ⟨b, 1, none⟩ = some (.string (bs r.str)) := by obtain ⟨ad, buf, h'⟩ := hr; exact h'.c1
  rw [hi] at c1
  have HI := Lib.hid hi
  have HSK := Lib.hid hsk
  have HLB := Lib.hid hlb
  have HC := Lib.hid hc
  have A := At.start hr
  rw [hi] at A
  have HO := Lib.hid ho
  clear hi hsk hlb hc ho
  go_enter Tryz.func56, Tryz.ntmps56
  go_wp2_with (first
    | (go_at_call 73; refine (isDigit_no c.toNat _ HC.out).mono ?_; rintro e w' ⟨rfl, rfl⟩)
    | (go_at_call 74; refine (A.refuse hp HSK.out HLB.out (fun e => by simpa using HO.out e)).mono ?_))
  rintro e w9 ⟨⟨s, off, rfl⟩, kk⟩
  go_wp2
  exact ⟨rfl, ⟨_, _, rfl⟩, kk⟩
end Go.Proofs.YtidokamjbglkbaaGreatDoor

