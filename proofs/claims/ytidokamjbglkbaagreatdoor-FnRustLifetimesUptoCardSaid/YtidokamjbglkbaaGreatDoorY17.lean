/- Trait objects; demangleType at functions and trait objects. -/
import Derived.Test.YtidokamjbglkbaaGreatDoorY16
import Derived.Test.YtidokamjbglkbaaGreatDoorY11
namespace Go.Proofs.YtidokamjbglkbaaGreatDoor
open Go.RowKit

/-- pathStartGenerics: it tells whether generics have begun. -/
def SaysB (f : FuncId) (lb : Nat) (sk : Bool) (inp k txt : List UInt8) (st : Bool) : Prop :=
  ∀ (B b : Nat) (r : RS) (w : World), Rst B b r w → r.skip = sk → r.life = lb → r.str = inp → (r.skip = false → r.out.length + txt.length ≤ 1000000000) →
    Calls Tryz.prog f #[.pointer (some ⟨b, 0, none⟩)] w fun e w' => e = .returned (.bool st) ∧ At B b r w k txt (fun l => st = false → l ≠ 32) w'
theorem At.saysB {B b : Nat} {r0 : RS} {w0 w : World} {k txt : List UInt8} {G : Nat → Prop} {f : FuncId} {lb : Nat} {sk st : Bool} {k' t : List UInt8} (hf : SaysB f lb sk k k' t st) (h : At B b r0 w0 k txt G w) (hs : r0.skip = sk) (hb : r0.life = lb)
    (hl : r0.skip = false → r0.out.length + (txt.length + t.length) ≤ 1000000000) :
    Calls Tryz.prog f #[.pointer (some ⟨b, 0, none⟩)] w fun e w' => e = .returned (.bool st) ∧ At B b r0 w0 k' (txt ++ t) (fun l => st = false → l ≠ 32) w' := by
  obtain ⟨o, l, h1, h2, h3, h4⟩ := h
  have hb2 := RS.to_len r0 k o l txt
  refine (hf B b _ w h3 hs hb rfl (fun e => by have := hl e; omega)).mono ?_
  rintro e w' ⟨rfl, o', l', ho, hG, hr, hk⟩
  rw [RS.to_to] at hr
  exact ⟨rfl, o', l', by simp at ho ⊢; omega, hG, hr, h4.trans hk⟩
theorem SaysB.quiet {f : FuncId} {lb : Nat} {inp k t t' : List UInt8} {st : Bool} (h : SaysB f lb true inp k t st) : SaysB f lb true inp k t' st := by
  intro B b r w hr hsk hlb hi _
  refine (h B b r w hr hsk hlb hi (fun e => by rw [hsk] at e; cases e)).mono ?_
  rintro e w' ⟨rfl, A⟩
  exact ⟨rfl, A.quiet hsk⟩
theorem SaysL.quiet {f : FuncId} {xs : Array Value} {lb lb' : Nat} {inp k t t' : List UInt8} {G G' : Nat → Prop} (h : SaysL f xs lb lb' true inp k t G) : SaysL f xs lb lb' true inp k t' G' := by
  intro B b r w hr hsk hlb hi _
  refine (h B b r w hr hsk hlb hi (fun e => by rw [hsk] at e; cases e)).mono ?_
  rintro e w' ⟨rfl, A⟩
  exact ⟨rfl, A.quiet hsk⟩

set_option maxHeartbeats 4000000 in
set_option maxRecDepth 100000 in
theorem start_I (lb : Nat) (sk : Bool) (inp k1 k t1 t2 txt : List UInt8) (G1 G2 : Nat → Prop) (h1 : Says 74 #[.bool false] lb sk inp k1 t1 G1) (h2 : Says 88 #[] lb sk k1 (69 :: k) t2 G2)
    (htxt : txt = t1 ++ (60 :: t2)) : SaysB 130 lb sk (73 :: inp) k txt true := by
  intro B b r w hr hsk hlb hi ho
  have c1 : w.cell? ⟨b, 1, none⟩ = some (.string (bs r.str)) := by obtain ⟨ad, buf, h'⟩ := hr; exact h'.c1
  rw [hi] at c1
  have hlt := hr.lt
  have hln := hr.len
  rw [hi] at hln
  simp only [List.length_cons] at hln
  have ho' := ho
  rw [htxt] at ho'
  have HO := Lib.hid ho'
  clear ho ho'
  have HI := Lib.hid hi
  have HSK := Lib.hid hsk
  have HLB := Lib.hid hlb
  have HT := Lib.hid htxt
  clear hi hsk hlb htxt
  have A := At.start (hr.alloc (.cells #[.pointer (some ⟨b, 0, none⟩)] 82))
  have B0 := Box.new w 82 (.pointer (some ⟨b, 0, none⟩))
  rw [HI.out] at A
  go_enter Tryz.func130, Tryz.ntmps130
  go_wp2_with fail
  refine (A.adv 73).mono ?_
  rintro e w1 ⟨rfl, A'⟩
  clear c1 hlt
  clear A; have A := A'; clear A'
  have cB0 := A.box B0 (by decide)
  go_wp2_with fail
  refine (A.says h1 HSK.out HLB.out (fun hs0 => by have ho' := HO.out hs0; simp at ho' ⊢; omega)).mono ?_
  rintro e w2 ⟨rfl, A'⟩
  clear cB0
  clear A; have A := A'; clear A'
  have cB0 := A.box B0 (by decide)
  go_wp2_with fail
  refine (A.wb 60 60 rfl (fun hs0 => by have ho' := HO.out hs0; simp at ho' ⊢; omega)).mono ?_
  rintro e w3 ⟨rfl, A'⟩
  clear cB0
  clear A; have A := A'; clear A'
  have cB0 := A.box B0 (by decide)
  go_wp2_with fail
  refine (A.says h2 HSK.out HLB.out (fun hs0 => by have ho' := HO.out hs0; simp at ho' ⊢; omega)).mono ?_
  rintro e w4 ⟨rfl, A'⟩
  clear cB0
  clear A; have A := A'; clear A'
  have cB0 := A.box B0 (by decide)
  go_wp2_with fail
  refine (A.chk 69 69 rfl).mono ?_
  rintro e w5 ⟨rfl, A'⟩
  clear cB0
  clear A; have A := A'; clear A'
  have cB0 := A.box B0 (by decide)
  clear cB0
  go_wp2_with fail
  go_ret
  obtain ⟨o, l, a1, a2, a3, a4⟩ := A.to (k' := k) (txt' := txt) rfl (by rw [HT.out]; simp)
  exact ⟨rfl, o, l, a1, by simp, a3, ((Kept.refl B w).alloc _).trans a4⟩

set_option maxHeartbeats 4000000 in
set_option maxRecDepth 100000 in
theorem start_path (lb : Nat) (sk : Bool) (c : UInt8) (hc : c.toNat ≠ 73 ∧ c.toNat ≠ 66) (inp k txt : List UInt8) (h1 : Says 74 #[.bool false] lb sk (c :: inp) k txt NS) : SaysB 130 lb sk (c :: inp) k txt false := by
  have htxt : txt = [] ++ txt := rfl
  have hx1 : ((c.toNat : Int) == 73) = false := by rw [beq_eq_false_iff_ne]; omega
  have hx2 : ((c.toNat : Int) == 66) = false := by rw [beq_eq_false_iff_ne]; omega
  clear hc
  intro B b r w hr hsk hlb hi ho
  have c1 : w.cell? ⟨b, 1, none⟩ = some (.string (bs r.str)) := by obtain ⟨ad, buf, h'⟩ := hr; exact h'.c1
  rw [hi] at c1
  have hlt := hr.lt
  have hln := hr.len
  rw [hi] at hln
  simp only [List.length_cons] at hln
  have ho' := ho
  rw [htxt] at ho'
  have HO := Lib.hid ho'
  clear ho ho'
  have HI := Lib.hid hi
  have HSK := Lib.hid hsk
  have HLB := Lib.hid hlb
  have HT := Lib.hid htxt
  clear hi hsk hlb htxt
  have A := At.start (hr.alloc (.cells #[.pointer (some ⟨b, 0, none⟩)] 82))
  have B0 := Box.new w 82 (.pointer (some ⟨b, 0, none⟩))
  rw [HI.out] at A
  go_enter Tryz.func130, Tryz.ntmps130
  go_wp2_with fail
  refine (A.says h1 HSK.out HLB.out (fun hs0 => by have ho' := HO.out hs0; simp at ho' ⊢; omega)).mono ?_
  rintro e w1 ⟨rfl, A'⟩
  clear c1 hlt
  clear A; have A := A'; clear A'
  have cB0 := A.box B0 (by decide)
  clear cB0
  go_wp2_with fail
  go_ret
  obtain ⟨o, l, a1, a2, a3, a4⟩ := A.to (k' := k) (txt' := txt) rfl (by rw [HT.out]; simp)
  exact ⟨rfl, o, l, a1, fun e _ => a2 e, a3, ((Kept.refl B w).alloc _).trans a4⟩

/-- Bindings, one behind the other: p, a name, a type. -/
inductive Bnd (lb : Nat) (sk : Bool) : List UInt8 → List UInt8 → List (List UInt8) → Prop
  | nil (c : UInt8) (l : List UInt8) (hc : c.toNat ≠ 112) : Bnd lb sk (c :: l) (c :: l) []
  | cons (inp k1 k2 k nm t : List UInt8) (p : Bool) (ts : List (List UInt8)) (h1 : Undis inp k1 nm p) (h2 : Says 86 #[] lb sk k1 k2 t NS) (r : Bnd lb sk k2 k ts) : Bnd lb sk (112 :: inp) k ((nm ++ ([32, 61, 32] ++ t)) :: ts)
def bndText (st : Bool) (ts : List (List UInt8)) : List UInt8 := if st then tailText [44, 32] ts ++ [62] else if ts = [] then [] else 60 :: (joined [44, 32] ts ++ [62])

set_option maxHeartbeats 4000000 in
set_option maxRecDepth 100000 in
theorem dynTrait_any (lb : Nat) (sk st : Bool) (inp k1 k t1 txt : List UInt8) (ts : List (List UInt8)) (h1 : SaysB 130 lb sk inp k1 t1 st) (h2 : Bnd lb sk k1 k ts) (htxt : txt = t1 ++ bndText st ts) : Says 122 #[] lb sk inp k txt NS := by
  intro B b r w hr hsk hlb hi ho
  have HI := Lib.hid hi
  have HSK := Lib.hid hsk
  have HLB := Lib.hid hlb
  have HO := Lib.hid ho
  have HT := Lib.hid htxt
  have HB := Lib.hid h2
  have A := At.start hr
  rw [hi] at A
  clear hi hsk hlb htxt ho h2 hr
  go_enter Tryz.func122, Tryz.ntmps122
  go_wp2_with fail
  refine (A.saysB h1 HSK.out HLB.out (fun hs0 => by have a := HO.out hs0; rw [HT.out] at a; simp at a ⊢; omega)).mono ?_
  rintro e w1 ⟨rfl, A1⟩
  clear A
  go_wp2_with fail
  go_loopg [2] (ts.length + 1) (fun n f wr => ∃ (s : Bool) (inp' txt' : List UInt8) (ts' : List (List UInt8)), n = ts'.length + 1 ∧ f = .bool s ∧ Bnd lb sk inp' k ts' ∧ txt = txt' ++ bndText s ts' ∧ At B b r w inp' txt' (fun l => s = false → l ≠ 32) wr)
  case atStart => exact ⟨st, k1, t1, ts, rfl, rfl, HB.out, HT.out, A1.to rfl (by simp)⟩
  case round =>
    obtain ⟨s, inp', txt', ts', rfl, rfl, hrun, htx, A⟩ := hrel
    clear A1
    cases hrun with
    | nil c l hc =>
      have Ac1 := A.c1
      have Aln := A.len.2
      simp only [List.length_cons] at Aln
      have hc' : ((c.toNat : Int) == 112) = false := by rw [beq_eq_false_iff_ne]; omega
      have HTX := Lib.hid htx
      clear htx hc
      cases s with
      | false =>
        go_wp2_with fail
        go_end0
        exact ((A.mono fun l e => by simpa using e).to rfl (by rw [HTX.out]; simp [bndText])).post HI.out (Kept.refl B w)
      | true =>
        go_wp2_with fail
        refine (A.wb 62 62 rfl (fun hs0 => by have a := HO.out hs0; rw [HTX.out] at a; simp [bndText, tailText] at a ⊢; omega)).mono ?_
        rintro e w2 ⟨rfl, A2⟩
        go_wp2_with fail
        go_end0
        exact ((A2.mono fun l e => by rw [e]; decide).to rfl (by rw [HTX.out]; simp [bndText, tailText])).post HI.out (Kept.refl B w)
    | cons inp2 k2 k3 _ nm t p ts2 hu hs hrun =>
      have Ac1 := A.c1
      have Aln := A.len.2
      simp only [List.length_cons] at Aln
      have HTX := Lib.hid htx
      have HRUN := Lib.hid hrun
      clear htx hrun
      cases s with
      | false =>
        have len : txt.length = txt'.length + ((nm.length + (t.length + 3)) + ((tailText [44, 32] ts2).length + 2)) := by rw [HTX.out]; simp [bndText, joined]; omega
        have LEN := Lib.hid len
        clear len
        go_wp2_with fail
        refine (A.adv 112).mono ?_
        rintro e w2 ⟨rfl, A2⟩
        clear A Ac1 Aln
        go_wp2_with fail
        refine (A2.wb 60 60 rfl (fun hs0 => by have a := HO.out hs0; rw [LEN.out] at a; omega)).mono ?_
        rintro e w3 ⟨rfl, A3⟩
        clear A2
        go_wp2_with fail
        refine (hu B b _ _ _ _ _ A3).mono ?_
        rintro e w4 ⟨rfl, A4⟩
        clear A3
        go_wp2_with fail
        refine (A4.ws0 nm (fun hs0 => by have a := HO.out hs0; rw [LEN.out] at a; simp; omega)).mono ?_
        rintro e w5 ⟨rfl, A5⟩
        clear A4
        go_wp2_with fail
        refine (A5.ws [32, 61, 32] (by simp) (fun hs0 => by have a := HO.out hs0; rw [LEN.out] at a; simp; omega)).mono ?_
        rintro e w6 ⟨rfl, A6⟩
        clear A5
        go_wp2_with fail
        refine (A6.says hs HSK.out HLB.out (fun hs0 => by have a := HO.out hs0; rw [LEN.out] at a; simp; omega)).mono ?_
        rintro e w7 ⟨rfl, A7⟩
        go_wp2_with fail
        go_roundg (ts2.length + 1)
        case measure => simp
        case rel => exact ⟨true, k3, _, ts2, rfl, rfl, HRUN.out, by rw [HTX.out]; simp [bndText, joined], A7.mono fun _ _ e => by cases e⟩
      | true =>
        have len : txt.length = txt'.length + ((nm.length + (t.length + 3)) + ((tailText [44, 32] ts2).length + 3)) := by rw [HTX.out]; simp [bndText, tailText]; omega
        have LEN := Lib.hid len
        clear len
        go_wp2_with fail
        refine (A.adv 112).mono ?_
        rintro e w2 ⟨rfl, A2⟩
        clear A Ac1 Aln
        go_wp2_with fail
        refine (A2.ws [44, 32] (by simp) (fun hs0 => by have a := HO.out hs0; rw [LEN.out] at a; simp; omega)).mono ?_
        rintro e w3 ⟨rfl, A3⟩
        clear A2
        go_wp2_with fail
        refine (hu B b _ _ _ _ _ A3).mono ?_
        rintro e w4 ⟨rfl, A4⟩
        clear A3
        go_wp2_with fail
        refine (A4.ws0 nm (fun hs0 => by have a := HO.out hs0; rw [LEN.out] at a; simp; omega)).mono ?_
        rintro e w5 ⟨rfl, A5⟩
        clear A4
        go_wp2_with fail
        refine (A5.ws [32, 61, 32] (by simp) (fun hs0 => by have a := HO.out hs0; rw [LEN.out] at a; simp; omega)).mono ?_
        rintro e w6 ⟨rfl, A6⟩
        clear A5
        go_wp2_with fail
        refine (A6.says hs HSK.out HLB.out (fun hs0 => by have a := HO.out hs0; rw [LEN.out] at a; simp; omega)).mono ?_
        rintro e w7 ⟨rfl, A7⟩
        go_wp2_with fail
        go_roundg (ts2.length + 1)
        case measure => simp
        case rel => exact ⟨true, k3, _, ts2, rfl, rfl, HRUN.out, by rw [HTX.out]; simp [bndText, tailText], A7.mono fun _ _ e => by cases e⟩

/-- Traits, one behind the other, up to an E. -/
inductive Trs (lb : Nat) (sk : Bool) : List UInt8 → List UInt8 → List (List UInt8) → Prop
  | nil (k : List UInt8) : Trs lb sk (69 :: k) (69 :: k) []
  | cons (c : UInt8) (l k1 k t : List UInt8) (ts : List (List UInt8)) (hc : c.toNat ≠ 69) (h : Says 122 #[] lb sk (c :: l) k1 t NS) (r : Trs lb sk k1 k ts) : Trs lb sk (c :: l) k (t :: ts)

set_option maxHeartbeats 4000000 in
set_option maxRecDepth 100000 in
theorem dynBounds_any (lb lb' : Nat) (sk : Bool) (inp inp1 k tb txt : List UInt8) (ts : List (List UInt8)) (hb : SaysL 120 #[] lb lb' sk inp inp1 tb T0) (h : Trs lb' sk inp1 (69 :: k) ts) (hne : ts ≠ [])
    (htxt : txt = [100, 121, 110, 32] ++ (tb ++ joined [32, 43, 32] ts)) : SaysL 108 #[] lb lb' sk inp k txt NS := by
  intro B b r w hr0 hsk hlb hi ho
  have ho' := ho
  rw [htxt] at ho'
  have HO := Lib.hid ho'
  clear ho ho'
  have HI := Lib.hid hi
  have HSK := Lib.hid hsk
  have HLB := Lib.hid hlb
  have HT := Lib.hid htxt
  have HR := Lib.hid h
  have HNE := Lib.hid hne
  clear hi hsk hlb htxt h hne
  have A := At.start hr0
  rw [HI.out] at A
  go_enter Tryz.func108, Tryz.ntmps108
  go_wp2_with fail
  refine (A.ws [100, 121, 110, 32] (by simp) (fun hs0 => by have ho' := HO.out hs0; simp at ho' ⊢; omega)).mono ?_
  rintro e w1 ⟨rfl, A'⟩
  clear A; have A := A'; clear A'
  go_wp2_with fail
  refine (A.saysL hb HSK.out HLB.out (fun hs0 => by have ho' := HO.out hs0; simp at ho' ⊢; omega)).mono ?_
  rintro e w2 ⟨rfl, A'⟩
  clear A; have A := A'; clear A'
  have AP := (A.mono (G' := T0) fun _ _ => trivial).to rfl (show _ = [100, 121, 110, 32] ++ tb by simp)
  clear A
  have A := AP
  clear AP
  go_wp2_with fail
  go_loopg [2] (ts.length + 1) (fun n f wr => ∃ (first : Bool) (inp' txt' : List UInt8) (ts' : List (List UInt8)), n = ts'.length + 1 ∧ f = .bool first ∧ Trs lb' sk inp' (69 :: k) ts' ∧ (first = true → ts' = ts) ∧
    [100, 121, 110, 32] ++ (tb ++ joined [32, 43, 32] ts) = txt' ++ (if first then joined [32, 43, 32] ts' else tailText [32, 43, 32] ts') ∧ At B b (r.lives lb') w inp' txt' (fun l => first = false → l ≠ 32) wr)
  case atStart => exact ⟨true, inp1, [100, 121, 110, 32] ++ tb, ts, rfl, rfl, HR.out, fun _ => rfl, by simp, A.mono fun _ _ e => by cases e⟩
  case round =>
    obtain ⟨first, inp', txt', ts', rfl, rfl, hrun, hft, htx, A⟩ := hrel
    cases hrun with
    | nil =>
      have Ac1 := A.c1
      have Aln := A.len.2
      simp only [List.length_cons] at Aln
      have htx' : txt' = [100, 121, 110, 32] ++ (tb ++ joined [32, 43, 32] ts) := by rw [htx]; cases first <;> simp [joined, tailText]
      have hf : first = false := by
        cases first with
        | false => rfl
        | true => exact absurd (hft rfl).symm HNE.out
      subst htx' hf
      clear htx hft
      go_wp2_with fail
      refine (A.chk 69 69 rfl).mono ?_
      rintro e w3 ⟨rfl, A3⟩
      clear A Ac1 Aln
      go_wp2_with fail
      go_end0
      exact ⟨rfl, (A3.mono fun l e => by simpa using e).to rfl (by rw [HT.out])⟩
    | cons c' l' k2 _ t ts2 hc' hs hrun =>
      have Ac1 := A.c1
      have Aln := A.len.2
      simp only [List.length_cons] at Aln
      have hc'' : ((c'.toNat : Int) != 69) = true := by simp; omega
      have HTX := Lib.hid htx
      have HRUN := Lib.hid hrun
      clear htx hc' hrun hft
      cases first with
      | true =>
        go_wp2_with fail
        refine (A.says hs HSK.out rfl ?_).mono ?_
        · intro hs0; have a := HO.out hs0; have b := congrArg List.length HTX.out; simp [joined] at a b ⊢; omega
        rintro e w1 ⟨rfl, A'⟩
        go_wp2_with fail
        go_roundg (ts2.length + 1)
        case measure => simp
        case rel => exact ⟨false, k2, txt' ++ t, ts2, rfl, rfl, HRUN.out, fun e => (by cases e), by rw [HTX.out]; simp [joined], A'.mono fun _ h _ => h⟩
      | false =>
        go_wp2_with fail
        refine (A.ws [32, 43, 32] (by simp) ?_).mono ?_
        · intro hs0; have a := HO.out hs0; have b := congrArg List.length HTX.out; simp [tailText] at a b ⊢; omega
        rintro e w1 ⟨rfl, A'⟩
        go_wp2_with fail
        refine (A'.says hs HSK.out rfl ?_).mono ?_
        · intro hs0; have a := HO.out hs0; have b := congrArg List.length HTX.out; simp [tailText] at a b ⊢; omega
        rintro e w2 ⟨rfl, A''⟩
        go_wp2_with fail
        go_roundg (ts2.length + 1)
        case measure => simp
        case rel => exact ⟨false, k2, txt' ++ [32, 43, 32] ++ t, ts2, rfl, rfl, HRUN.out, fun e => (by cases e), by rw [HTX.out]; simp [tailText], A''.mono fun _ h _ => h⟩

theorem At.restore {B b m : Nat} {r0 : RS} {w0 w : World} {k txt : List UInt8} {G : Nat → Prop} (h : At B b (r0.lives m) w0 k txt G w) : At B b r0 w0 k txt G (w.setCell ⟨b, 6, none⟩ (.int .i64 r0.life)) := by
  have := h.setLife r0.life rfl
  rw [RS.lives_lives, RS.lives_self] at this
  exact this
set_option maxHeartbeats 4000000 in
set_option maxRecDepth 100000 in
theorem type_F (lb lb' : Nat) (sk : Bool) (inp k t txt : List UInt8) (h : SaysL 107 #[] lb lb' sk inp k t NS) (htxt : txt = t) : Says 86 #[] lb sk (70 :: inp) k txt NS := by
  intro B b r w hr hsk hlb hi ho
  have c1 : w.cell? ⟨b, 1, none⟩ = some (.string (bs r.str)) := by obtain ⟨ad, buf, h'⟩ := hr; exact h'.c1
  rw [hi] at c1
  have hlt := hr.lt
  have hln := hr.len
  rw [hi] at hln
  simp only [List.length_cons] at hln
  have ho' := ho
  rw [htxt] at ho'
  have HO := Lib.hid ho'
  clear ho ho'
  have HI := Lib.hid hi
  have HSK := Lib.hid hsk
  have HLB := Lib.hid hlb
  have HT := Lib.hid htxt
  clear hi hsk hlb htxt
  have c6 : w.cell? ⟨b, 6, none⟩ = some (.int .i64 r.life) := by obtain ⟨ad, buf, h'⟩ := hr; exact h'.c6
  rw [HLB.out] at c6
  have A := At.start hr
  rw [HI.out] at A
  go_enter Tryz.func86, Tryz.ntmps86
  go_wp2_with fail
  refine (A.adv 70).mono ?_
  rintro e w1 ⟨rfl, A'⟩
  clear c1 c6 hlt
  clear A; have A := A'; clear A'
  have Ac6 := A.c6
  have Af6 := A.fz 6
  go_wp2_with fail
  refine (A.saysL h HSK.out HLB.out (fun hs0 => by have ho' := HO.out hs0; simp at ho' ⊢; omega)).mono ?_
  rintro e w2 ⟨rfl, A'⟩
  clear Ac6 Af6
  clear A; have A := A'; clear A'
  have Ac6 := A.c6
  have Af6 := A.fz 6
  go_wp2_with fail
  go_end0
  have AL := A.restore
  exact (AL.to rfl (by rw [HT.out]; rfl)).post HI.out (Kept.refl B w)

theorem At.c7l {B b : Nat} {r0 : RS} {w0 w : World} {k txt : List UInt8} {G : Nat → Prop} (h : At B b r0 w0 k txt G w) : ∃ l : Nat, w.cell? ⟨b, 7, none⟩ = some (.int .u8 l) ∧ (r0.skip = false → G l) := by
  obtain ⟨o, l, h1, h2, ⟨ad, buf, h3⟩, h4⟩ := h; exact ⟨l, h3.c7, h2⟩

set_option maxHeartbeats 4000000 in
set_option maxRecDepth 100000 in
theorem type_D0 (lb lb' : Nat) (sk : Bool) (inp k t txt : List UInt8) (h : SaysL 108 #[] lb lb' sk inp (76 :: 95 :: k) t NS) (htxt : txt = t) : Says 86 #[] lb sk (68 :: inp) k txt NS := by
  intro B b r w hr hsk hlb hi ho
  have c1 : w.cell? ⟨b, 1, none⟩ = some (.string (bs r.str)) := by obtain ⟨ad, buf, h'⟩ := hr; exact h'.c1
  rw [hi] at c1
  have hlt := hr.lt
  have hln := hr.len
  rw [hi] at hln
  simp only [List.length_cons] at hln
  have ho' := ho
  rw [htxt] at ho'
  have HO := Lib.hid ho'
  clear ho ho'
  have HI := Lib.hid hi
  have HSK := Lib.hid hsk
  have HLB := Lib.hid hlb
  have HT := Lib.hid htxt
  clear hi hsk hlb htxt
  have c6 : w.cell? ⟨b, 6, none⟩ = some (.int .i64 r.life) := by obtain ⟨ad, buf, h'⟩ := hr; exact h'.c6
  rw [HLB.out] at c6
  have A := At.start hr
  rw [HI.out] at A
  go_enter Tryz.func86, Tryz.ntmps86
  go_wp2_with fail
  refine (A.adv 68).mono ?_
  rintro e w1 ⟨rfl, A'⟩
  clear c1 c6 hlt
  clear A; have A := A'; clear A'
  have Ac6 := A.c6
  have Af6 := A.fz 6
  go_wp2_with fail
  refine (A.saysL h HSK.out HLB.out (fun hs0 => by have ho' := HO.out hs0; simp at ho' ⊢; omega)).mono ?_
  rintro e w2 ⟨rfl, A'⟩
  clear Ac6 Af6
  clear A; have A := A'; clear A'
  have Ac1 := A.c1
  have Aln := A.len.2
  try simp only [List.length_cons] at Aln
  try simp only [List.length_append] at Aln
  try simp only [List.cons_append] at Ac1
  try simp only [List.nil_append] at Ac1
  have Ac6 := A.c6
  have Af6 := A.fz 6
  have AL := A.restore
  go_wp2_with fail
  refine (AL.adv 76).mono ?_
  rintro e w3 ⟨rfl, A'⟩
  clear A AL Ac1 Aln Ac6 Af6
  have A := A'
  clear A'
  go_wp2_with fail
  refine (A.base62 0 k (by omega)).mono ?_
  rintro e w4 ⟨rfl, A4⟩
  clear A
  go_wp2_with fail
  go_end0
  exact (A4.to rfl (by rw [HT.out]; rfl)).post HI.out (Kept.refl B w)

set_option maxHeartbeats 4000000 in
set_option maxRecDepth 100000 in
theorem type_Dn (lb lb' : Nat) (sk : Bool) (inp k t txt : List UInt8) (n : Nat) (hn0 : n ≠ 0) (hn : n ≤ lb) (hb : lb ≤ 1000000000) (hs : sk = false → lb ≤ 25) (h : SaysL 108 #[] lb lb' sk inp (76 :: (b62 n ++ k)) t NS) (htxt : txt = t ++ ([32, 43, 32] ++ lifeText lb n)) : Says 86 #[] lb sk (68 :: inp) k txt NS := by
  intro B b r w hr hsk hlb hi ho
  have c1 : w.cell? ⟨b, 1, none⟩ = some (.string (bs r.str)) := by obtain ⟨ad, buf, h'⟩ := hr; exact h'.c1
  rw [hi] at c1
  have hlt := hr.lt
  have hln := hr.len
  rw [hi] at hln
  simp only [List.length_cons] at hln
  have ho' := ho
  rw [htxt] at ho'
  have HO := Lib.hid ho'
  clear ho ho'
  have HI := Lib.hid hi
  have HSK := Lib.hid hsk
  have HLB := Lib.hid hlb
  have HT := Lib.hid htxt
  clear hi hsk hlb htxt
  have hn1' : (0 < (n : Int)) := by omega
  have HN := Lib.hid hn
  have HBB := Lib.hid hb
  have HSS := Lib.hid hs
  have HN0 := Lib.hid hn0
  clear hn hb hs hn0
  have c6 : w.cell? ⟨b, 6, none⟩ = some (.int .i64 r.life) := by obtain ⟨ad, buf, h'⟩ := hr; exact h'.c6
  rw [HLB.out] at c6
  have A := At.start hr
  rw [HI.out] at A
  go_enter Tryz.func86, Tryz.ntmps86
  go_wp2_with fail
  refine (A.adv 68).mono ?_
  rintro e w1 ⟨rfl, A'⟩
  clear c1 c6 hlt
  clear A; have A := A'; clear A'
  have Ac6 := A.c6
  have Af6 := A.fz 6
  go_wp2_with fail
  refine (A.saysL h HSK.out HLB.out (fun hs0 => by have ho' := HO.out hs0; simp at ho' ⊢; omega)).mono ?_
  rintro e w2 ⟨rfl, A'⟩
  clear Ac6 Af6
  clear A; have A := A'; clear A'
  have Ac1 := A.c1
  have Aln := A.len.2
  try simp only [List.length_cons] at Aln
  try simp only [List.length_append] at Aln
  try simp only [List.cons_append] at Ac1
  try simp only [List.nil_append] at Ac1
  have Ac6 := A.c6
  have Af6 := A.fz 6
  have AL := A.restore
  go_wp2_with fail
  refine (AL.adv 76).mono ?_
  rintro e w3 ⟨rfl, A'⟩
  clear A AL Ac1 Aln Ac6 Af6
  have A := A'
  clear A'
  go_wp2_with fail
  refine (A.base62 n k (by have := HN.out; have := HBB.out; omega)).mono ?_
  rintro e w4 ⟨rfl, A4⟩
  clear A
  obtain ⟨l7, c7, hl7⟩ := A4.c7l
  by_cases h32 : l7 = 32
  · subst h32
    have hskt : r.skip = true := by
      cases h0 : r.skip with
      | true => rfl
      | false => exact absurd rfl (hl7 h0)
    have HSKT := Lib.hid hskt
    clear hl7 hskt
    go_wp2_with fail
    refine (A4.ws [43, 32] (by simp) (fun e => by rw [HSKT.out] at e; cases e)).mono ?_
    rintro e w5 ⟨rfl, A5⟩
    clear A4 c7
    go_wp2_with fail
    refine (A5.life n (by rw [HLB.out]; exact HN.out) (by rw [HLB.out]; exact HBB.out) (fun e => by rw [HSKT.out] at e; cases e) (fun e => by rw [HSKT.out] at e; cases e)).mono ?_
    rintro e w6 ⟨rfl, A6⟩
    go_wp2_with fail
    go_end0
    exact (A6.quiet HSKT.out).post HI.out (Kept.refl B w)
  · have h32' : ((l7 : Int) == 32) = false := by rw [beq_eq_false_iff_ne]; omega
    clear hl7 h32
    go_wp2_with fail
    refine (A4.wb 32 32 rfl (fun hs0 => by have ho' := HO.out hs0; simp [lifeText_len] at ho' ⊢; omega)).mono ?_
    rintro e w5 ⟨rfl, A5⟩
    clear A4 c7
    go_wp2_with fail
    refine (A5.ws [43, 32] (by simp) (fun hs0 => by have ho' := HO.out hs0; simp [lifeText_len] at ho' ⊢; omega)).mono ?_
    rintro e w6 ⟨rfl, A6⟩
    clear A5
    go_wp2_with fail
    refine (A6.life n (by rw [HLB.out]; exact HN.out) (by rw [HLB.out]; exact HBB.out) (fun e => by rw [HLB.out]; exact HSS.out (by rw [← HSK.out]; exact e)) (fun hs0 => by have ho' := HO.out hs0; simp [lifeText_len] at ho' ⊢; omega)).mono ?_
    rintro e w7 ⟨rfl, A7⟩
    go_wp2_with fail
    go_end0
    exact (A7.to rfl (by rw [HT.out, HLB.out]; simp)).post HI.out (Kept.refl B w)

end Go.Proofs.YtidokamjbglkbaaGreatDoor

/- path at implementations, at nested names. -/
namespace Go.Proofs.YtidokamjbglkbaaGreatDoor
open Go.RowKit

set_option maxHeartbeats 4000000 in
set_option maxRecDepth 100000 in
theorem path_M (sep : Bool) (lb : Nat) (sk : Bool) (inp k1 k t txt : List UInt8) (G : Nat → Prop) (h1 : Says 85 #[] lb sk inp k1 [] T0) (h2 : Says 86 #[] lb sk k1 k t G) (htxt : txt = 60 :: (t ++ [62])) :
    Says 74 #[.bool sep] lb sk (77 :: inp) k txt NS := by
  intro B b r w hr hsk hlb hi ho
  have c1 : w.cell? ⟨b, 1, none⟩ = some (.string (bs r.str)) := by obtain ⟨ad, buf, h'⟩ := hr; exact h'.c1
  rw [hi] at c1
  have hlt := hr.lt
  have hln := hr.len
  rw [hi] at hln
  simp only [List.length_cons] at hln
  have ho' := ho
  rw [htxt] at ho'
  have HO := Lib.hid ho'
  clear ho ho'
  have HI := Lib.hid hi
  have HSK := Lib.hid hsk
  have HLB := Lib.hid hlb
  have HT := Lib.hid htxt
  clear hi hsk hlb htxt
  have A := At.start ((hr.alloc (.cells #[.pointer (some ⟨b, 0, none⟩)] 82)).alloc (.cells #[.bool sep] 4))
  obtain ⟨B0, B1⟩ := boxes2 w 82 4 (.pointer (some ⟨b, 0, none⟩)) (.bool sep)
  rw [HI.out] at A
  go_enter Tryz.func74, Tryz.ntmps74
  go_wp2_with fail
  refine (A.adv 77).mono ?_
  rintro e w1 ⟨rfl, A'⟩
  clear c1 hlt
  clear A; have A := A'; clear A'
  have cB0 := A.box B0 (by decide)
  go_wp2_with fail
  refine (A.says h1 HSK.out HLB.out (fun hs0 => by have ho' := HO.out hs0; simp at ho' ⊢; omega)).mono ?_
  rintro e w2 ⟨rfl, A'⟩
  clear cB0
  clear A; have A := A'; clear A'
  have cB0 := A.box B0 (by decide)
  go_wp2_with fail
  refine (A.wb 60 60 rfl (fun hs0 => by have ho' := HO.out hs0; simp at ho' ⊢; omega)).mono ?_
  rintro e w3 ⟨rfl, A'⟩
  clear cB0
  clear A; have A := A'; clear A'
  have cB0 := A.box B0 (by decide)
  go_wp2_with fail
  refine (A.says h2 HSK.out HLB.out (fun hs0 => by have ho' := HO.out hs0; simp at ho' ⊢; omega)).mono ?_
  rintro e w4 ⟨rfl, A'⟩
  clear cB0
  clear A; have A := A'; clear A'
  have cB0 := A.box B0 (by decide)
  go_wp2_with fail
  refine (A.wb 62 62 rfl (fun hs0 => by have ho' := HO.out hs0; simp at ho' ⊢; omega)).mono ?_
  rintro e w5 ⟨rfl, A'⟩
  clear cB0
  clear A; have A := A'; clear A'
  have cB0 := A.box B0 (by decide)
  clear cB0
  go_wp2_with fail
  go_end0
  exact (A.mono (fun l e => by rw [e]; decide)).to rfl (by rw [HT.out]; simp) |>.post HI.out (((Kept.refl B w).alloc _).alloc _)

set_option maxHeartbeats 4000000 in
set_option maxRecDepth 100000 in
theorem path_X (sep : Bool) (lb : Nat) (sk : Bool) (inp k1 k2 k t1 t2 txt : List UInt8) (G1 G2 : Nat → Prop) (h1 : Says 85 #[] lb sk inp k1 [] T0) (h2 : Says 86 #[] lb sk k1 k2 t1 G1) (h3 : Says 74 #[.bool false] lb sk k2 k t2 G2) (htxt : txt = 60 :: (t1 ++ ([32, 97, 115, 32] ++ (t2 ++ [62])))) :
    Says 74 #[.bool sep] lb sk (88 :: inp) k txt NS := by
  intro B b r w hr hsk hlb hi ho
  have c1 : w.cell? ⟨b, 1, none⟩ = some (.string (bs r.str)) := by obtain ⟨ad, buf, h'⟩ := hr; exact h'.c1
  rw [hi] at c1
  have hlt := hr.lt
  have hln := hr.len
  rw [hi] at hln
  simp only [List.length_cons] at hln
  have ho' := ho
  rw [htxt] at ho'
  have HO := Lib.hid ho'
  clear ho ho'
  have HI := Lib.hid hi
  have HSK := Lib.hid hsk
  have HLB := Lib.hid hlb
  have HT := Lib.hid htxt
  clear hi hsk hlb htxt
  have A := At.start ((hr.alloc (.cells #[.pointer (some ⟨b, 0, none⟩)] 82)).alloc (.cells #[.bool sep] 4))
  obtain ⟨B0, B1⟩ := boxes2 w 82 4 (.pointer (some ⟨b, 0, none⟩)) (.bool sep)
  rw [HI.out] at A
  go_enter Tryz.func74, Tryz.ntmps74
  go_wp2_with fail
  refine (A.adv 88).mono ?_
  rintro e w1 ⟨rfl, A'⟩
  clear c1 hlt
  clear A; have A := A'; clear A'
  have cB0 := A.box B0 (by decide)
  go_wp2_with fail
  refine (A.says h1 HSK.out HLB.out (fun hs0 => by have ho' := HO.out hs0; simp at ho' ⊢; omega)).mono ?_
  rintro e w2 ⟨rfl, A'⟩
  clear cB0
  clear A; have A := A'; clear A'
  have cB0 := A.box B0 (by decide)
  go_wp2_with fail
  refine (A.wb 60 60 rfl (fun hs0 => by have ho' := HO.out hs0; simp at ho' ⊢; omega)).mono ?_
  rintro e w3 ⟨rfl, A'⟩
  clear cB0
  clear A; have A := A'; clear A'
  have cB0 := A.box B0 (by decide)
  go_wp2_with fail
  refine (A.says h2 HSK.out HLB.out (fun hs0 => by have ho' := HO.out hs0; simp at ho' ⊢; omega)).mono ?_
  rintro e w4 ⟨rfl, A'⟩
  clear cB0
  clear A; have A := A'; clear A'
  have cB0 := A.box B0 (by decide)
  go_wp2_with fail
  refine (A.ws [32, 97, 115, 32] (by simp) (fun hs0 => by have ho' := HO.out hs0; simp at ho' ⊢; omega)).mono ?_
  rintro e w5 ⟨rfl, A'⟩
  clear cB0
  clear A; have A := A'; clear A'
  have cB0 := A.box B0 (by decide)
  go_wp2_with fail
  refine (A.says h3 HSK.out HLB.out (fun hs0 => by have ho' := HO.out hs0; simp at ho' ⊢; omega)).mono ?_
  rintro e w6 ⟨rfl, A'⟩
  clear cB0
  clear A; have A := A'; clear A'
  have cB0 := A.box B0 (by decide)
  go_wp2_with fail
  refine (A.wb 62 62 rfl (fun hs0 => by have ho' := HO.out hs0; simp at ho' ⊢; omega)).mono ?_
  rintro e w7 ⟨rfl, A'⟩
  clear cB0
  clear A; have A := A'; clear A'
  have cB0 := A.box B0 (by decide)
  clear cB0
  go_wp2_with fail
  go_end0
  exact (A.mono (fun l e => by rw [e]; decide)).to rfl (by rw [HT.out]; simp) |>.post HI.out (((Kept.refl B w).alloc _).alloc _)

set_option maxHeartbeats 4000000 in
set_option maxRecDepth 100000 in
theorem path_Y (sep : Bool) (lb : Nat) (sk : Bool) (inp k2 k t1 t2 txt : List UInt8) (G1 G2 : Nat → Prop) (h2 : Says 86 #[] lb sk inp k2 t1 G1) (h3 : Says 74 #[.bool false] lb sk k2 k t2 G2) (htxt : txt = 60 :: (t1 ++ ([32, 97, 115, 32] ++ (t2 ++ [62])))) :
    Says 74 #[.bool sep] lb sk (89 :: inp) k txt NS := by
  intro B b r w hr hsk hlb hi ho
  have c1 : w.cell? ⟨b, 1, none⟩ = some (.string (bs r.str)) := by obtain ⟨ad, buf, h'⟩ := hr; exact h'.c1
  rw [hi] at c1
  have hlt := hr.lt
  have hln := hr.len
  rw [hi] at hln
  simp only [List.length_cons] at hln
  have ho' := ho
  rw [htxt] at ho'
  have HO := Lib.hid ho'
  clear ho ho'
  have HI := Lib.hid hi
  have HSK := Lib.hid hsk
  have HLB := Lib.hid hlb
  have HT := Lib.hid htxt
  clear hi hsk hlb htxt
  have A := At.start ((hr.alloc (.cells #[.pointer (some ⟨b, 0, none⟩)] 82)).alloc (.cells #[.bool sep] 4))
  obtain ⟨B0, B1⟩ := boxes2 w 82 4 (.pointer (some ⟨b, 0, none⟩)) (.bool sep)
  rw [HI.out] at A
  go_enter Tryz.func74, Tryz.ntmps74
  go_wp2_with fail
  refine (A.adv 89).mono ?_
  rintro e w1 ⟨rfl, A'⟩
  clear c1 hlt
  clear A; have A := A'; clear A'
  have cB0 := A.box B0 (by decide)
  go_wp2_with fail
  refine (A.wb 60 60 rfl (fun hs0 => by have ho' := HO.out hs0; simp at ho' ⊢; omega)).mono ?_
  rintro e w2 ⟨rfl, A'⟩
  clear cB0
  clear A; have A := A'; clear A'
  have cB0 := A.box B0 (by decide)
  go_wp2_with fail
  refine (A.says h2 HSK.out HLB.out (fun hs0 => by have ho' := HO.out hs0; simp at ho' ⊢; omega)).mono ?_
  rintro e w3 ⟨rfl, A'⟩
  clear cB0
  clear A; have A := A'; clear A'
  have cB0 := A.box B0 (by decide)
  go_wp2_with fail
  refine (A.ws [32, 97, 115, 32] (by simp) (fun hs0 => by have ho' := HO.out hs0; simp at ho' ⊢; omega)).mono ?_
  rintro e w4 ⟨rfl, A'⟩
  clear cB0
  clear A; have A := A'; clear A'
  have cB0 := A.box B0 (by decide)
  go_wp2_with fail
  refine (A.says h3 HSK.out HLB.out (fun hs0 => by have ho' := HO.out hs0; simp at ho' ⊢; omega)).mono ?_
  rintro e w5 ⟨rfl, A'⟩
  clear cB0
  clear A; have A := A'; clear A'
  have cB0 := A.box B0 (by decide)
  go_wp2_with fail
  refine (A.wb 62 62 rfl (fun hs0 => by have ho' := HO.out hs0; simp at ho' ⊢; omega)).mono ?_
  rintro e w6 ⟨rfl, A'⟩
  clear cB0
  clear A; have A := A'; clear A'
  have cB0 := A.box B0 (by decide)
  clear cB0
  go_wp2_with fail
  go_end0
  exact (A.mono (fun l e => by rw [e]; decide)).to rfl (by rw [HT.out]; simp) |>.post HI.out (((Kept.refl B w).alloc _).alloc _)

set_option maxHeartbeats 4000000 in
set_option maxRecDepth 100000 in
theorem path_N_low (sep : Bool) (lb : Nat) (sk : Bool) (c : UInt8) (hc1 : 97 ≤ c.toNat) (hc2 : c.toNat ≤ 122) (inp k1 k t1 name txt : List UInt8) (n : Nat) (G1 : Nat → Prop) (h1 : Says 74 #[.bool sep] lb sk inp k1 t1 G1) (h2 : Names k1 k n name) (hne : name ≠ []) (hl : (name.getLast hne).toNat ≠ 32) (htxt : txt = t1 ++ ([58, 58] ++ name)) :
    Says 74 #[.bool sep] lb sk (78 :: c :: inp) k txt NS := by
  intro B b r w hr hsk hlb hi ho
  have c1 : w.cell? ⟨b, 1, none⟩ = some (.string (bs r.str)) := by obtain ⟨ad, buf, h'⟩ := hr; exact h'.c1
  rw [hi] at c1
  have hlt := hr.lt
  have hln := hr.len
  rw [hi] at hln
  simp only [List.length_cons] at hln
  have ho' := ho
  rw [htxt] at ho'
  have HO := Lib.hid ho'
  clear ho ho'
  have HI := Lib.hid hi
  have HSK := Lib.hid hsk
  have HLB := Lib.hid hlb
  have HT := Lib.hid htxt
  clear hi hsk hlb htxt
  have A := At.start ((hr.alloc (.cells #[.pointer (some ⟨b, 0, none⟩)] 82)).alloc (.cells #[.bool sep] 4))
  obtain ⟨B0, B1⟩ := boxes2 w 82 4 (.pointer (some ⟨b, 0, none⟩)) (.bool sep)
  rw [HI.out] at A
  go_enter Tryz.func74, Tryz.ntmps74
  go_wp2_with fail
  refine (A.adv 78).mono ?_
  rintro e w1 ⟨rfl, A'⟩
  clear c1 hlt
  clear A; have A := A'; clear A'
  have cB0 := A.box B0 (by decide)
  have Ac1 := A.c1
  have Aln := A.len.2
  try simp only [List.length_cons] at Aln
  try simp only [List.cons_append, List.nil_append] at Ac1
  go_wp2_with fail
  refine (A.adv c).mono ?_
  rintro e w2 ⟨rfl, A'⟩
  clear cB0 Ac1 Aln
  clear A; have A := A'; clear A'
  have cB0 := A.box B0 (by decide)
  have cB1 := A.box B1 (by decide)
  go_wp2_with fail
  refine (A.says h1 HSK.out HLB.out (fun hs0 => by have ho' := HO.out hs0; simp at ho' ⊢; omega)).mono ?_
  rintro e w3 ⟨rfl, A'⟩
  clear cB0 cB1
  clear A; have A := A'; clear A'
  have cB0 := A.box B0 (by decide)
  go_wp2_with fail
  refine (h2 B b r _ _ _ _ A).mono ?_
  rintro e w4 ⟨rfl, A'⟩
  clear cB0
  clear A; have A := A'; clear A'
  have cB0 := A.box B0 (by decide)
  go_wp2_with fail
  refine (A.ws [58, 58] (by simp) (fun hs0 => by have ho' := HO.out hs0; simp at ho' ⊢; omega)).mono ?_
  rintro e w5 ⟨rfl, A'⟩
  clear cB0
  clear A; have A := A'; clear A'
  have cB0 := A.box B0 (by decide)
  go_wp2_with fail
  refine (A.ws name hne (fun hs0 => by have ho' := HO.out hs0; simp at ho' ⊢; omega)).mono ?_
  rintro e w6 ⟨rfl, A'⟩
  clear cB0
  clear A; have A := A'; clear A'
  have cB0 := A.box B0 (by decide)
  clear cB0
  go_wp2_with fail
  go_end0
  exact (A.mono (fun l e => by rw [e]; exact hl)).to rfl (by rw [HT.out]; simp) |>.post HI.out (((Kept.refl B w).alloc _).alloc _)

end Go.Proofs.YtidokamjbglkbaaGreatDoor

