/- The reader's walk to a place where what stands before matters. -/
import Derived.Test.YtidokamjbglkbaaGreatDoorY32
import Derived.Test.YtidokamjbglkbaaGreatDoorY11
import Derived.Test.YtidokamjbglkbaaGreatDoorY10
import Derived.Test.YtidokamjbglkbaaGreatDoorY31
namespace Go.Proofs.YtidokamjbglkbaaGreatDoor
open Go.RowKit

/-- Says, where the whole name is og. -/
def SaysO (og : List UInt8) (f : FuncId) (xs : Array Value) (lb : Nat) (sk : Bool) (inp k txt : List UInt8) (G : Nat → Prop) : Prop :=
  ∀ (B b : Nat) (r : RS) (w : World), Rst B b r w → r.skip = sk → r.life = lb → r.str = inp → (r.orig = og ∧ r.off + inp.length = og.length) → (r.skip = false → r.out.length + txt.length ≤ 1000000000) →
    Calls Tryz.prog f (#[.pointer (some ⟨b, 0, none⟩)] ++ xs) w (Post B b r inp k txt G w)
theorem Says.o {og : List UInt8} {f : FuncId} {xs : Array Value} {lb : Nat} {sk : Bool} {inp k txt : List UInt8} {G : Nat → Prop} (h : Says f xs lb sk inp k txt G) : SaysO og f xs lb sk inp k txt G :=
  fun B b r w a1 a2 a3 a4 _ a5 => h B b r w a1 a2 a3 a4 a5
theorem At.saysO {B b : Nat} {r0 : RS} {w0 w : World} {k txt : List UInt8} {G : Nat → Prop} {og : List UInt8} {f : FuncId} {xs : Array Value} {lb : Nat} {sk : Bool} {k' t : List UInt8} {G' : Nat → Prop} (hf : SaysO og f xs lb sk k k' t G') (h : At B b r0 w0 k txt G w) (hs : r0.skip = sk) (hb : r0.life = lb)
    (hg : r0.orig = og ∧ r0.off + r0.str.length = og.length) (hl : r0.skip = false → r0.out.length + (txt.length + t.length) ≤ 1000000000) :
    Calls Tryz.prog f (#[.pointer (some ⟨b, 0, none⟩)] ++ xs) w fun e w' => e = .returned (.tuple #[]) ∧ At B b r0 w0 k' (txt ++ t) G' w' := by
  obtain ⟨o, l, h1, h2, h3, h4⟩ := h
  have hb2 := RS.to_len r0 k o l txt
  refine (hf B b _ w h3 hs hb rfl ⟨hg.1, by simp; omega⟩ (fun e => by have := hl e; omega)).mono ?_
  rintro e w' ⟨rfl, o', l', ho, hG, hr, hk⟩
  rw [RS.to_to] at hr
  exact ⟨rfl, o', l', by simp at ho; omega, hG, hr, h4.trans hk⟩
/-- Fails, where the whole name is og. -/
def RefusesO (og : List UInt8) (f : FuncId) (xs : Array Value) (lb : Nat) (sk : Bool) (inp : List UInt8) (n : Nat) : Prop :=
  ∀ (B b : Nat) (r : RS) (w : World), Rst B b r w → r.skip = sk → r.life = lb → r.str = inp → (r.orig = og ∧ r.off + inp.length = og.length) → (r.skip = false → r.out.length + n ≤ 1000000000) →
    Calls Tryz.prog f (#[.pointer (some ⟨b, 0, none⟩)] ++ xs) w fun e w' => Died e ∧ Kept B w w'
theorem At.refuseO {B b : Nat} {r0 : RS} {w0 w : World} {k txt : List UInt8} {G : Nat → Prop} {og : List UInt8} {f : FuncId} {xs : Array Value} {lb n : Nat} {sk : Bool} (hf : RefusesO og f xs lb sk k n) (h : At B b r0 w0 k txt G w) (hs : r0.skip = sk) (hb : r0.life = lb)
    (hg : r0.orig = og ∧ r0.off + r0.str.length = og.length) (hl : r0.skip = false → r0.out.length + (txt.length + n) ≤ 1000000000) : Calls Tryz.prog f (#[.pointer (some ⟨b, 0, none⟩)] ++ xs) w fun e w' => Died e ∧ Kept B w0 w' := by
  obtain ⟨o, l, h1, h2, h3, h4⟩ := h
  have hb2 := RS.to_len r0 k o l txt
  exact (hf B b _ w h3 hs hb rfl ⟨hg.1, by simp; omega⟩ (fun e => by have := hl e; omega)).mono fun e w' ⟨d, kk⟩ => ⟨d, h4.trans kk⟩

/-- Parts one behind the other, up to an E. -/
inductive RunO (og : List UInt8) (f : FuncId) (lb : Nat) (sk : Bool) : List UInt8 → List UInt8 → List (List UInt8) → Prop
  | nil (k : List UInt8) : RunO og f lb sk (69 :: k) (69 :: k) []
  | cons (c : UInt8) (l k1 k t : List UInt8) (ts : List (List UInt8)) (hc : c.toNat ≠ 69) (h : SaysO og f #[] lb sk (c :: l) k1 t T0) (r : RunO og f lb sk k1 k ts) : RunO og f lb sk (c :: l) k (t :: ts)

set_option maxHeartbeats 4000000 in
set_option maxRecDepth 100000 in
theorem genericArgs_O (og : List UInt8) (lb : Nat) (sk : Bool) (inp k txt : List UInt8) (ts : List (List UInt8)) (h : RunO og 111 lb sk inp (69 :: k) ts) (htxt : txt = joined [44, 32] ts) :
    SaysO og 88 #[] lb sk inp (69 :: k) txt T0 := by
  intro B b r w hr hsk hlb hi hg ho
  have HG : Hid (r.orig = og ∧ r.off + r.str.length = og.length) := Lib.hid (by rw [hi]; exact hg)
  clear hg
  have c8 : w.cell? ⟨b, 8, none⟩ = some (.bool false) := by obtain ⟨ad, buf, h'⟩ := hr; exact h'.c8
  have hlt := hr.lt
  have A := At.start (hr.alloc (.cells #[.pointer (some ⟨b, 0, none⟩)] 82))
  have B0 := Box.new w 82 (.pointer (some ⟨b, 0, none⟩))
  rw [hi] at A
  have HI := Lib.hid hi
  have HSK := Lib.hid hsk
  have HLB := Lib.hid hlb
  have HO := Lib.hid ho
  have HT := Lib.hid htxt
  have HR := Lib.hid h
  clear hi hsk hlb htxt ho h
  go_enter Tryz.func88, Tryz.ntmps88
  go_wp2_with fail
  go_loopg [3] (ts.length + 1) (fun n f wr => ∃ (first : Bool) (inp' txt' : List UInt8) (ts' : List (List UInt8)), n = ts'.length + 1 ∧ f = .bool first ∧ RunO og 111 lb sk inp' (69 :: k) ts' ∧
    txt = txt' ++ (if first then joined [44, 32] ts' else tailText [44, 32] ts') ∧ At B b r (w.alloc (.cells #[.pointer (some ⟨b, 0, none⟩)] 82)) inp' txt' T0 wr)
  case atStart => exact ⟨true, inp, [], ts, rfl, rfl, HR.out, HT.out, A.mono fun _ _ => trivial⟩
  case round =>
    obtain ⟨first, inp', txt', ts', rfl, rfl, hrun, htx, A⟩ := hrel
    clear c8 hlt
    cases hrun with
    | nil =>
      have cB0 := A.box B0 (by decide)
      have Ac1 := A.c1
      have Aln := A.len.2
      simp only [List.length_cons] at Aln
      have HTX := Lib.hid htx
      clear htx
      go_wp2_with fail
      go_end0
      exact (A.to rfl (by rw [HTX.out]; cases first <;> simp [joined, tailText])).post HI.out ((Kept.refl B w).alloc _)
    | cons c l k1 _ t ts2 hc hs hrun =>
      have cB0 := A.box B0 (by decide)
      have Ac1 := A.c1
      have Aln := A.len.2
      simp only [List.length_cons] at Aln
      have hc' : ((c.toNat : Int) != 69) = true := by simp; omega
      have HTX := Lib.hid htx
      have HRUN := Lib.hid hrun
      clear htx hc hrun
      cases first with
      | true =>
        go_wp2_with fail
        refine (A.saysO hs HSK.out HLB.out HG.out ?_).mono ?_
        · intro hs0; have a := HO.out hs0; rw [HTX.out] at a; simp [joined] at a ⊢; omega
        rintro e w1 ⟨rfl, A'⟩
        go_wp2_with fail
        go_roundg (ts2.length + 1)
        case measure => simp
        case rel => exact ⟨false, k1, txt' ++ t, ts2, rfl, rfl, HRUN.out, by rw [HTX.out]; simp [joined], A'⟩
      | false =>
        go_wp2_with fail
        refine (A.ws [44, 32] (by simp) ?_).mono ?_
        · intro hs0; have a := HO.out hs0; rw [HTX.out] at a; simp [tailText] at a ⊢; omega
        rintro e w1 ⟨rfl, A'⟩
        clear cB0 Ac1
        have cB0 := A'.box B0 (by decide)
        go_wp2_with fail
        refine (A'.saysO hs HSK.out HLB.out HG.out ?_).mono ?_
        · intro hs0; have a := HO.out hs0; rw [HTX.out] at a; simp [tailText] at a ⊢; omega
        rintro e w2 ⟨rfl, A''⟩
        go_wp2_with fail
        go_roundg (ts2.length + 1)
        case measure => simp
        case rel => exact ⟨false, k1, txt' ++ [44, 32] ++ t, ts2, rfl, rfl, HRUN.out, by rw [HTX.out]; simp [tailText], A''⟩

set_option maxHeartbeats 4000000 in
set_option maxRecDepth 100000 in
theorem path_I_O (og : List UInt8) (lb : Nat) (sk : Bool) (inp k1 k t1 t2 txt : List UInt8) (G1 G2 : Nat → Prop) (h1 : Says 74 #[.bool true] lb sk inp k1 t1 G1) (h2 : SaysO og 88 #[] lb sk k1 (69 :: k) t2 G2)
    (htxt : txt = t1 ++ ([58, 58] ++ ([60] ++ (t2 ++ [62])))) : SaysO og 74 #[.bool true] lb sk (73 :: inp) k txt NS := by
  intro B b r w hr hsk hlb hi hg ho
  have HG : Hid (r.orig = og ∧ r.off + r.str.length = og.length) := Lib.hid (by rw [hi]; exact hg)
  clear hg
  have c1 : w.cell? ⟨b, 1, none⟩ = some (.string (bs r.str)) := by obtain ⟨ad, buf, h'⟩ := hr; exact h'.c1
  rw [hi] at c1
  have hlt := hr.lt
  have hln := hr.len
  rw [hi] at hln
  simp only [List.length_cons] at hln
  have ho' := ho
  rw [htxt] at ho'
  have HO := Lib.hid ho'
  clear ho ho'
  have HI := Lib.hid hi
  have HSK := Lib.hid hsk
  have HLB := Lib.hid hlb
  have HT := Lib.hid htxt
  clear hi hsk hlb htxt
  have A := At.start ((hr.alloc (.cells #[.pointer (some ⟨b, 0, none⟩)] 82)).alloc (.cells #[.bool true] 4))
  obtain ⟨B0, B1⟩ := boxes2 w 82 4 (.pointer (some ⟨b, 0, none⟩)) (.bool true)
  rw [HI.out] at A
  go_enter Tryz.func74, Tryz.ntmps74
  go_wp2_with fail
  refine (A.adv 73).mono ?_
  rintro e w1 ⟨rfl, A'⟩
  clear c1 hlt
  clear A; have A := A'; clear A'
  have cB0 := A.box B0 (by decide)
  have cB1 := A.box B1 (by decide)
  go_wp2_with fail
  refine (A.says h1 HSK.out HLB.out (fun hs0 => by have ho' := HO.out hs0; simp at ho' ⊢; omega)).mono ?_
  rintro e w2 ⟨rfl, A'⟩
  clear cB0 cB1
  clear A; have A := A'; clear A'
  have cB0 := A.box B0 (by decide)
  have cB1 := A.box B1 (by decide)
  go_wp2_with fail
  refine (A.ws [58, 58] (by simp) (fun hs0 => by have ho' := HO.out hs0; simp at ho' ⊢; omega)).mono ?_
  rintro e w3 ⟨rfl, A'⟩
  clear cB0 cB1
  clear A; have A := A'; clear A'
  have cB0 := A.box B0 (by decide)
  go_wp2_with fail
  refine (A.wb 60 60 rfl (fun hs0 => by have ho' := HO.out hs0; simp at ho' ⊢; omega)).mono ?_
  rintro e w4 ⟨rfl, A'⟩
  clear cB0
  clear A; have A := A'; clear A'
  have cB0 := A.box B0 (by decide)
  go_wp2_with fail
  refine (A.saysO h2 HSK.out HLB.out HG.out (fun hs0 => by have ho' := HO.out hs0; simp at ho' ⊢; omega)).mono ?_
  rintro e w5 ⟨rfl, A'⟩
  clear cB0
  clear A; have A := A'; clear A'
  have cB0 := A.box B0 (by decide)
  go_wp2_with fail
  refine (A.wb 62 62 rfl (fun hs0 => by have ho' := HO.out hs0; simp at ho' ⊢; omega)).mono ?_
  rintro e w6 ⟨rfl, A'⟩
  clear cB0
  clear A; have A := A'; clear A'
  have cB0 := A.box B0 (by decide)
  go_wp2_with fail
  refine (A.chk 69 69 rfl).mono ?_
  rintro e w7 ⟨rfl, A'⟩
  clear cB0
  clear A; have A := A'; clear A'
  have cB0 := A.box B0 (by decide)
  clear cB0
  go_wp2_with fail
  go_end0
  exact (A.mono fun l e => by rw [e]; decide).to rfl (by rw [HT.out]; simp) |>.post HI.out (((Kept.refl B w).alloc _).alloc _)

set_option maxHeartbeats 4000000 in
set_option maxRecDepth 100000 in
theorem genericArg_TO (og : List UInt8) (lb : Nat) (sk : Bool) (c : UInt8) (inp k txt : List UInt8) (G : Nat → Prop) (h : SaysO og 86 #[] lb sk (c :: inp) k txt G) (hL : ((c.toNat : Int) == 76) = false) (hK : ((c.toNat : Int) == 75) = false) :
    SaysO og 111 #[] lb sk (c :: inp) k txt G := by
  intro B b r w hr hsk hlb hi hg ho
  have HG : Hid (r.orig = og ∧ r.off + r.str.length = og.length) := Lib.hid (by rw [hi]; exact hg)
  clear hg
  have c1 : w.cell? ⟨b, 1, none⟩ = some (.string (bs r.str)) := by obtain ⟨ad, buf, h'⟩ := hr; exact h'.c1
  rw [hi] at c1
  have HI := Lib.hid hi
  have HSK := Lib.hid hsk
  have HLB := Lib.hid hlb
  have A := At.start hr
  rw [hi] at A
  have HO := Lib.hid ho
  clear hi hsk hlb ho
  go_enter Tryz.func111, Tryz.ntmps111
  go_wp2_with fail
  refine (A.saysO h HSK.out HLB.out HG.out (fun e => by simpa using HO.out e)).mono ?_
  rintro e w2 ⟨rfl, A'⟩
  clear A c1
  go_wp2
  go_end0
  exact A'.to rfl rfl |>.post HI.out (Kept.refl B w)

set_option maxHeartbeats 4000000 in
set_option maxRecDepth 100000 in
theorem symbol_O (og : List UInt8) (lb : Nat) (sk : Bool) (c : UInt8) (inp txt : List UInt8) (G : Nat → Prop) (hp : SaysO og 74 #[.bool true] lb sk (c :: inp) [] txt G) (hc : c.toNat < 48 ∨ 57 < c.toNat) :
    SaysO og 56 #[] lb sk (c :: inp) [] txt G := by
  intro B b r w hr hsk hlb hi hg ho
  have HG : Hid (r.orig = og ∧ r.off + r.str.length = og.length) := Lib.hid (by rw [hi]; exact hg)
  clear hg
  have c1 : w.cell? ⟨b, 1, none⟩ = some (.string (bs r.str)) := by obtain ⟨ad, buf, h'⟩ := hr; exact h'.c1
  rw [hi] at c1
  have HI := Lib.hid hi
  have HSK := Lib.hid hsk
  have HLB := Lib.hid hlb
  have HC := Lib.hid hc
  have A := At.start hr
  rw [hi] at A
  have HO := Lib.hid ho
  clear hi hsk hlb hc ho
  go_enter Tryz.func56, Tryz.ntmps56
  go_wp2_with (first
    | (go_at_call 73; refine (isDigit_no c.toNat _ HC.out).mono ?_; rintro e w' ⟨rfl, rfl⟩)
    | (go_at_call 74; refine (A.saysO hp HSK.out HLB.out HG.out (fun e => by simpa using HO.out e)).mono ?_))
  rintro e w1 ⟨rfl, A'⟩
  clear c1 A
  have c1 := A'.c1
  go_wp2
  go_end0
  exact A'.to rfl rfl |>.post HI.out (Kept.refl B w)

set_option maxHeartbeats 4000000 in
set_option maxRecDepth 100000 in
theorem toString_O (c : UInt8) (inp txt : List UInt8) (G : Nat → Prop) (hp : SaysO (c :: inp) 74 #[.bool true] 0 false (c :: inp) [] txt G) (hc : c.toNat < 48 ∨ 57 < c.toNat)
    (hdot : ∀ x ∈ 95 :: 82 :: c :: inp, x ≠ 46) (hlen : inp.length ≤ 100000000) (ht : txt ≠ []) (htl : txt.length ≤ 1000000000) (B : Nat) (w : World) (hT : Tabs B w) (hB : B ≤ w.heap.size) :
    Calls Tryz.prog 39 #[.string (bs (95 :: 82 :: c :: inp)), .slice none 0 0] w fun e w' => e = .returned (.tuple #[.string (bs txt), .nilIface]) ∧ Below w.heap.size w w' := by
  have hmf : ∀ (fn : Fn) (first cap : Array Value) (w : World), (Instr.makeFunc fn first cap).run Tryz.prog w = .ok (.func fn first cap) w := fun _ _ _ _ => rfl
  have HX := Lib.hid (fun w => index_none (95 :: 82 :: c :: inp) 46 hdot (by simp; omega) w)
  have HP : Hid (∀ w, Calls Tryz.prog 51 #[.string (bs (95 :: 82 :: c :: inp)), .string (bs [95, 82])] w fun e w' => e = .returned (.bool true) ∧ w' = w) := by
    intro w
    refine (Tryz.strings_HasPrefix (bs (95 :: 82 :: c :: inp)) (bs [95, 82]) w).mono ?_
    rintro e w' ⟨rfl, rfl⟩
    exact ⟨by simp [Lib.hasPrefix], rfl⟩
  have b1 : Below w.heap.size w ((w.alloc (.cells #[.string ⟨#[]⟩] 9)).alloc (.cells #[.nilIface] 60)) := ((Below.refl _ _).alloc (Nat.le_refl _) _).alloc (by simp) _
  have F := Rst.fresh (hT.same fun k hk => (b1.mono hB).block k hk) (by simp; omega : B ≤ ((w.alloc (.cells #[.string ⟨#[]⟩] 9)).alloc (.cells #[.nilIface] 60)).heap.size) (c :: inp) (by simp; omega)
  have b2 := Lib.hid (b1.alloc (by simp; omega) (.cells ((R0 (c :: inp)).cs (.pointer none) (.slice none 0 0)) tR))
  have e1 : ((w.alloc (.cells #[.string ⟨#[]⟩] 9)).alloc (.cells #[.nilIface] 60)).heap.size = w.heap.size + 1 + 1 := by simp
  rw [e1] at F
  have A := Lib.hid (At.start F)
  have HS := Lib.hid (symbol_O (c :: inp) 0 false c inp txt G hp hc)
  have TL := Lib.hid htl
  have TN := Lib.hid ht
  have hex : (bs (95 :: 82 :: c :: inp)).extract 2 (inp.length + 1 + 1 + 1) = bs (c :: inp) := by rw [bs_extract]; congr 1; simp
  clear hp hc hdot hT hB b1 e1 F htl ht
  go_enter_defers Tryz.func39, Tryz.ntmps39
  go_wp2_with (first
    | (go_at_call 51; refine (HP.out _).mono ?_; rintro e w' ⟨rfl, rfl⟩)
    | (go_at_call 53; refine (HX.out _).mono ?_; rintro e w' ⟨rfl, rfl⟩)
    | (go_at_call 56; fail))
  go_loop [10, 38] (fun _ i => i = .int .i64 0) (fun _ _ => 0)
  case atStart => rfl
  case round =>
    subst hrel
    go_wp2_with (go_at_call 56; refine (At.saysO HS.out A.out rfl rfl ⟨rfl, by simp [R0]⟩ (fun _ => by simpa [R0] using TL.out)).mono ?_)
    rintro e w1 ⟨rfl, A1⟩
    intro A1
    have c1 := A1.c1
    have A1' := A1
    obtain ⟨o, l, _, _, H, K⟩ := A1'
    have BS := Lib.hid (bString _ _ _ _ H (by simpa [R0, RS.to] using TN.out))
    obtain ⟨ad, buf, V⟩ := H
    have c9 := V.c9
    have c5 := V.c5
    have b3 := Lib.hid (b2.out.trans ((K.below (by simp)).mono (by omega)))
    have HV := Lib.hid V.heap
    have hb0 : w1.heap[w.heap.size]? = some (.cells #[.string ⟨#[]⟩] 9 (0, 0)) := by
      rw [K.block _ (by simp <;> omega) (.inl (by omega)), Below.heap_alloc _ _ _ (by simp <;> omega), Below.heap_alloc _ _ _ (by simp)]
      exact heap_alloc_new w _
    have hb1 : w1.heap[w.heap.size + 1]? = some (.cells #[.nilIface] 60 (0, 0)) := by
      rw [K.block _ (by simp) (.inl (by omega)), Below.heap_alloc _ _ _ (by simp)]
      have := heap_alloc_new (w.alloc (.cells #[.string ⟨#[]⟩] 9)) (.cells #[.nilIface] 60)
      simpa using this
    have HB0 := Lib.hid hb0
    have HB1 := Lib.hid hb1
    clear hb0 hb1
    clear A1 V K A b2
    go_wp2_with (go_at_call 60; refine BS.out.mono ?_)
    rintro e w2 ⟨rfl, b4, hb⟩
    have c9' : w2.cell? ⟨w.heap.size + 1 + 1, 9, none⟩ = some (.int .i64 0) := by rw [cellAt (hb.trans HV.out)]; rfl
    have d0 : w2.heap[w.heap.size]? = some (.cells #[.string ⟨#[]⟩] 9 (0, 0)) := (b4.block _ (by omega)).trans HB0.out
    have d1 : w2.heap[w.heap.size + 1]? = some (.cells #[.nilIface] 60 (0, 0)) := (b4.block _ (by omega)).trans HB1.out
    have k0 : w2.cell? ⟨w.heap.size, 0, none⟩ = some (.string ⟨#[]⟩) := by rw [cellAt d0]; rfl
    have k1 : w2.cell? ⟨w.heap.size + 1, 0, none⟩ = some .nilIface := by rw [cellAt d1]; rfl
    have f0 : w2.frozen? ⟨w.heap.size, 0, none⟩ = false := Lib.frozen_of_heap d0 0
    have f1 : w2.frozen? ⟨w.heap.size + 1, 0, none⟩ = false := Lib.frozen_of_heap d1 0
    have b5 := Lib.hid (b3.out.trans (b4.mono (by omega)))
    have D0 := Lib.hid d0
    have D1 := Lib.hid d1
    clear d0 d1 b4 hb b3 HV HB0 HB1 BS
    go_wp2
    refine leaves_cons (f := 52) (args := #[.pointer (some ⟨w.heap.size, 0, none⟩), .pointer (some ⟨w.heap.size + 1, 0, none⟩)]) (by simp) (by simp [go_sem]) ?_
    refine (top_idle ⟨w.heap.size, 0, none⟩ ⟨w.heap.size + 1, 0, none⟩ _).mono ?_
    rintro e u' w'' ⟨rfl, rfl, rfl⟩
    have hx : ((R0 (c :: inp)).to [] o txt l).out = txt := rfl
    rw [hx]
    have E0 : (w2.setCell ⟨w.heap.size, 0, none⟩ (.string (bs txt))).cell? ⟨w.heap.size, 0, none⟩ = some (.string (bs txt)) := by rw [cellAt (setCell_heap D0.out 0 _)]; rfl
    have D1' : (w2.setCell ⟨w.heap.size, 0, none⟩ (.string (bs txt))).heap[w.heap.size + 1]? = some (.cells #[.nilIface] 60 (0, 0)) := by
      rw [Below.heap_setCell _ _ _ _ (by simp)]; exact D1.out
    have E1 : ((w2.setCell ⟨w.heap.size, 0, none⟩ (.string (bs txt))).setCell ⟨w.heap.size + 1, 0, none⟩ .nilIface).cell? ⟨w.heap.size + 1, 0, none⟩ = some .nilIface := by rw [cellAt (setCell_heap D1' 0 _)]; rfl
    simp [Leaves, settle, results, Tryz.results39, go_sem, E0, E1]
    exact (b5.out.setCell (p := ⟨w.heap.size, 0, none⟩) (Nat.le_refl _) _).setCell (p := ⟨w.heap.size + 1, 0, none⟩) (Nat.le_succ _) _
end Go.Proofs.YtidokamjbglkbaaGreatDoor

/- A reference back to a type is read as the type. -/
namespace Go.Proofs.YtidokamjbglkbaaGreatDoor
open Go.RowKit

set_option maxHeartbeats 4000000 in
set_option maxRecDepth 100000 in
theorem type_B (og : List UInt8) (lb n : Nat) (k piece t : List UInt8) (hbig : og.length ≤ 400000000) (hp : ∀ off, off + (66 :: (b62 n ++ k)).length = og.length → n < off ∧ (og.drop n).take (off - n) = piece)
    (h : Says 86 #[] lb false piece [] t NS) : SaysO og 86 #[] lb false (66 :: (b62 n ++ k)) k t NS := by
  intro B b r w hr hsk hlb hi hg ho
  have hmf : ∀ (fn : Fn) (first cap : Array Value) (w : World), (Instr.makeFunc fn first cap).run Tryz.prog w = .ok (.func fn first cap) w := fun _ _ _ _ => rfl
  have c1 : w.cell? ⟨b, 1, none⟩ = some (.string (bs r.str)) := by obtain ⟨ad, buf, h'⟩ := hr; exact h'.c1
  rw [hi] at c1
  have hln := hr.len
  rw [hi] at hln
  simp only [List.length_cons] at hln
  obtain ⟨hn, hpc⟩ := hp r.off hg.2
  have HB := Lib.hid (backref_T hr hsk n k piece t hi hn (by rw [hi, hg.1]; exact hg.2) (by rw [hg.1]; exact hbig) (by rw [hg.1]; exact hpc) (by rw [hlb]; exact h) (ho hsk))
  clear hi hsk hlb hg ho hr hp hn hpc h
  go_enter Tryz.func86, Tryz.ntmps86
  go_wp2_with fail
  refine HB.out.mono ?_
  rintro e w1 ⟨rfl, hP⟩
  go_wp2_with fail
  go_end0
  exact ⟨rfl, hP⟩
theorem SaysO.any {og : List UInt8} {f : FuncId} {xs : Array Value} {lb : Nat} {sk : Bool} {inp k t : List UInt8} {G : Nat → Prop} (h : SaysO og f xs lb sk inp k t G) : SaysO og f xs lb sk inp k t T0 := by
  intro B b r w a1 a2 a3 a4 a5 a6
  refine (h B b r w a1 a2 a3 a4 a5 a6).mono ?_
  rintro e w' ⟨he, o, l, h1, h2, h3⟩
  exact ⟨he, o, l, h1, fun _ => trivial, h3⟩
theorem read_again {t : RT} (hf : FitT t) : ReadAs (nameOf (pieceOf t ++ [66, 51, 95])) (toldOf (tell t ++ (44 :: 32 :: tell t))) := by
  have hl := hf.len
  have hln := hf.tlen
  obtain ⟨c, l, e, hd⟩ := hf.head
  intro B w hT hB
  have h1 := hf.arg (66 :: 51 :: 95 :: [69])
  have h2 : SaysO (73 :: 67 :: 49 :: 109 :: ((pieceOf t ++ [66, 51, 95]) ++ [69])) 86 #[] 0 false (66 :: 51 :: 95 :: [69]) [69] (tell t) NS := by
    have e4 : b62 4 = [51, 95] := by decide +kernel
    have hB := type_B (73 :: 67 :: 49 :: 109 :: ((pieceOf t ++ [66, 51, 95]) ++ [69])) 0 4 [69] (pieceOf t) (tell t) (by simp; omega) ?_ (by simpa using hf.type [])
    · rw [e4] at hB
      exact hB
    have hp1 : 0 < (pieceOf t).length := by rw [e]; simp
    intro off ho
    rw [e4] at ho
    simp at ho
    refine ⟨by omega, ?_⟩
    have : off - 4 = (pieceOf t).length := by omega
    rw [this]
    simp
  have hr : RunO (73 :: 67 :: 49 :: 109 :: ((pieceOf t ++ [66, 51, 95]) ++ [69])) 111 0 false ((pieceOf t ++ [66, 51, 95]) ++ [69]) [69] [tell t, tell t] := by
    have ein : (pieceOf t ++ [66, 51, 95]) ++ [69] = c :: (l ++ [66, 51, 95, 69]) := by rw [e]; simp
    have h1' : Says 111 #[] 0 false (c :: (l ++ [66, 51, 95, 69])) (66 :: 51 :: 95 :: [69]) (tell t) T0 := by
      have := h1
      rw [e] at this
      simpa using this
    rw [ein] at h2 ⊢
    refine RunO.cons c _ (66 :: 51 :: 95 :: [69]) [69] (tell t) [tell t] hd.ne69 h1'.o ?_
    exact RunO.cons 66 _ [69] [69] (tell t) [] (by decide) (genericArg_TO _ 0 false 66 (51 :: 95 :: [69]) [69] (tell t) NS (by first | exact h2 | simpa using h2) (by decide) (by decide)).any (RunO.nil [])
  refine toString_O 73 (67 :: 49 :: 109 :: ((pieceOf t ++ [66, 51, 95]) ++ [69])) (toldOf (tell t ++ (44 :: 32 :: tell t))) NS ?_ (by decide) ?_ (by simp; omega) (by simp [toldOf]) (by simp [toldOf]; omega) B w hT hB
  · refine path_I_O _ 0 false (67 :: 49 :: 109 :: ((pieceOf t ++ [66, 51, 95]) ++ [69])) ((pieceOf t ++ [66, 51, 95]) ++ [69]) [] [109] (tell t ++ (44 :: 32 :: tell t)) _ NS T0 (path_m 0 false _) (genericArgs_O _ 0 false _ [] _ [tell t, tell t] hr (by simp [joined, tailText])) ?_
    simp [toldOf]
  · intro x hx
    simp only [List.mem_cons, List.mem_append, List.not_mem_nil, or_false] at hx
    rcases hx with rfl | rfl | rfl | rfl | rfl | rfl | (hx | rfl | rfl | rfl) | rfl
    all_goals first
      | decide
      | exact hf.no46 x hx
end Go.Proofs.YtidokamjbglkbaaGreatDoor

