/- Readings: methods of traits, trait objects, bindings. -/
import Derived.Test.YtidokamjbglkbaaGreatDoorY31
import Derived.Test.YtidokamjbglkbaaGreatDoorY17
import Derived.Test.YtidokamjbglkbaaGreatDoorY10
import Derived.Test.YtidokamjbglkbaaGreatDoorY09
import Derived.Test.YtidokamjbglkbaaGreatDoorY18
import Derived.Deep.RegionHeld3
import Derived.BigQuiet
namespace Go.Proofs.YtidokamjbglkbaaGreatDoor
open Go.RowKit

theorem FitP.pathT {q : RT} (h : FitP q) (k : List UInt8) : Says 74 #[.bool false] 0 false (pieceOf q ++ k) k (tell q) NS := by
  have := h.path false k
  unfold tell
  rw [txt_path_t 0 q h.pk]
  exact this
theorem read_asY {t q : RT} (ht : FitT t) (hq : FitP q) : ReadAs (95 :: 82 :: 78 :: 118 :: 89 :: (pieceOf t ++ (pieceOf q ++ [49, 102]))) (60 :: (tell t ++ (32 :: 97 :: 115 :: 32 :: (tell q ++ [62, 58, 58, 102])))) := by
  have h1 := hq.fit.len
  have h2 := ht.len
  have h3 := ht.tlen
  have h4 := hq.fit.tlen
  have := read_member (89 :: (pieceOf t ++ pieceOf q)) (60 :: (tell t ++ ([32, 97, 115, 32] ++ (tell q ++ [62])))) ?_ ?_ (by simp; omega) (by simp; omega)
  · simpa using this
  · have := path_Y true 0 false (pieceOf t ++ (pieceOf q ++ [49, 102])) (pieceOf q ++ [49, 102]) [49, 102] (tell t) (tell q) _ NS NS (ht.type (pieceOf q ++ [49, 102])) (hq.pathT [49, 102]) rfl
    simpa using this
  · intro x hx
    simp only [List.mem_cons, List.mem_append] at hx
    rcases hx with rfl | hx | hx
    · decide
    · exact ht.no46 x hx
    · exact hq.fit.no46 x hx
theorem read_asX {p t q : RT} (hp : FitP p) (ht : FitT t) (hq : FitP q) : ReadAs (95 :: 82 :: 78 :: 118 :: 88 :: (pieceOf p ++ (pieceOf t ++ (pieceOf q ++ [49, 102])))) (60 :: (tell t ++ (32 :: 97 :: 115 :: 32 :: (tell q ++ [62, 58, 58, 102])))) := by
  have h0 := hp.fit.len
  have h1 := hq.fit.len
  have h2 := ht.len
  have h3 := ht.tlen
  have h4 := hq.fit.tlen
  have := read_member (88 :: (pieceOf p ++ (pieceOf t ++ pieceOf q))) (60 :: (tell t ++ ([32, 97, 115, 32] ++ (tell q ++ [62])))) ?_ ?_ (by simp; omega) (by simp; omega)
  · simpa using this
  · have := path_X true 0 false (pieceOf p ++ (pieceOf t ++ (pieceOf q ++ [49, 102]))) (pieceOf t ++ (pieceOf q ++ [49, 102])) (pieceOf q ++ [49, 102]) [49, 102] (tell t) (tell q) _ NS NS (hp.quiet (pieceOf t ++ (pieceOf q ++ [49, 102]))) (ht.type (pieceOf q ++ [49, 102])) (hq.pathT [49, 102]) rfl
    simpa using this
  · intro x hx
    simp only [List.mem_cons, List.mem_append] at hx
    rcases hx with rfl | hx | hx | hx
    · decide
    · exact hp.fit.no46 x hx
    · exact ht.no46 x hx
    · exact hq.fit.no46 x hx

/-- A trait without bindings. -/
theorem tell_start {p : RT} (h : isPathK p.kd) : tell p = txt .s 0 p ++ bndText (decide (p.kd = 6)) [] := by
  unfold tell
  by_cases h6 : p.kd = 6
  · cases p with
    | mk kd c nm n fl ks =>
      have h6' : kd = 6 := h6
      subst h6'
      simp [txt, bndText, tailText, RT.kd, Md.sep]
  · rw [txt_path_t 0 p h, txt_path_s 0 p h h6]
    simp [h6, bndText]
theorem FitP.trait {p : RT} (h : FitP p) (c : UInt8) (l : List UInt8) (hc : c.toNat ≠ 112) : Says 122 #[] 0 false (pieceOf p ++ c :: l) (c :: l) (tell p) NS := by
  have h1 := (h.told (c :: l)).start h.pk
  rw [pieceOf_eq, List.append_assoc]
  exact dynTrait_any 0 false _ _ _ _ _ _ [] h1 (Bnd.nil c l hc) (tell_start h.pk)
theorem FitP.headP {p : RT} (h : FitP p) : ∃ c l, pieceOf p = c :: l ∧ pathHd c := by
  obtain ⟨c, l, e, hd⟩ := enc_head (idw := idW) h.fit.rt
  exact ⟨c, l ++ (if emp p then [95] else []), by rw [pieceOf_eq, e]; rfl, hd.path h.pk⟩
theorem pathHd.nes {c : UInt8} (h : pathHd c) : c.toNat ≠ 69 ∧ c.toNat ≠ 112 ∧ ((c.toNat : Int) != 71) = true := by
  unfold pathHd at h
  refine ⟨by omega, by omega, ?_⟩
  rw [bne_iff_ne]; omega
/-- Traits, one behind the other, as a type of trait objects. -/
theorem dyn_says (c : UInt8) (l k txt : List UInt8) (ts : List (List UInt8)) (h : Trs 0 false (c :: l) (69 :: 76 :: 95 :: k) ts) (hc : ((c.toNat : Int) != 71) = true) (hne : ts ≠ []) (htxt : txt = [100, 121, 110, 32] ++ joined [32, 43, 32] ts) :
    Says 86 #[] 0 false (68 :: c :: l) k txt NS :=
  type_D0 0 0 false (c :: l) k _ _ (dynBounds_any 0 0 false (c :: l) (c :: l) (76 :: 95 :: k) [] _ ts (binder_none 0 false c l hc) h hne (by rw [htxt]; simp)) rfl
theorem read_object1 {p : RT} (hp : FitP p) : ReadAs (nameOf (68 :: (pieceOf p ++ [69, 76, 95]))) (toldOf (100 :: 121 :: 110 :: 32 :: tell p)) := by
  have h1 := hp.fit.len
  have h2 := hp.fit.tlen
  obtain ⟨c, l, e, hd⟩ := hp.headP
  have ht := hp.trait 69 [76, 95, 69] (by decide)
  refine read_type 68 (pieceOf p ++ [69, 76, 95]) _ ?_ (by decide) (by decide) (by decide) ?_ (by simp; omega) (by simp; omega)
  · rw [List.append_assoc, e, List.cons_append] at *
    exact dyn_says c (l ++ [69, 76, 95, 69]) [69] _ [tell p] (Trs.cons c _ _ _ _ _ hd.nes.1 ht (Trs.nil _)) hd.nes.2.2 (by simp) (by simp [joined, tailText])
  · intro x hx
    simp only [List.mem_cons, List.mem_append, List.not_mem_nil, or_false] at hx
    rcases hx with rfl | hx | rfl | rfl | rfl
    · decide
    · exact hp.fit.no46 x hx
    · decide
    · decide
    · decide
theorem read_object2 {p q : RT} (hp : FitP p) (hq : FitP q) : ReadAs (nameOf (68 :: (pieceOf p ++ (pieceOf q ++ [69, 76, 95])))) (toldOf (100 :: 121 :: 110 :: 32 :: (tell p ++ (32 :: 43 :: 32 :: tell q)))) := by
  have h1 := hp.fit.len
  have h2 := hp.fit.tlen
  have h3 := hq.fit.len
  have h4 := hq.fit.tlen
  obtain ⟨c, l, e, hd⟩ := hp.headP
  obtain ⟨c2, l2, e2, hd2⟩ := hq.headP
  have ht := hp.trait c2 (l2 ++ [69, 76, 95, 69]) hd2.nes.2.1
  have ht2 := hq.trait 69 [76, 95, 69] (by decide)
  refine read_type 68 (pieceOf p ++ (pieceOf q ++ [69, 76, 95])) _ ?_ (by decide) (by decide) (by decide) ?_ (by simp; omega) (by simp; omega)
  · have hin : pieceOf p ++ (pieceOf q ++ [69, 76, 95]) ++ [69] = c :: (l ++ (c2 :: (l2 ++ [69, 76, 95, 69]))) := by rw [e, e2]; simp
    rw [hin]
    rw [e, List.cons_append] at ht
    rw [e2, List.cons_append] at ht2
    exact dyn_says c _ [69] _ [tell p, tell q] (Trs.cons c _ _ _ _ _ hd.nes.1 ht (Trs.cons c2 _ _ _ _ _ hd2.nes.1 ht2 (Trs.nil _))) hd.nes.2.2 (by simp) (by simp [joined, tailText])
  · intro x hx
    simp only [List.mem_cons, List.mem_append, List.not_mem_nil, or_false] at hx
    rcases hx with rfl | hx | hx | rfl | rfl | rfl
    · decide
    · exact hp.fit.no46 x hx
    · exact hq.fit.no46 x hx
    · decide
    · decide
    · decide

/-- A name that is bound to a type. -/
theorem one_bnd {nm : List UInt8} (hm : nameB nm = true) {t : RT} (ht : FitT t) (l : List UInt8) : Bnd 0 false (112 :: (idW nm ++ (pieceOf t ++ 69 :: l))) (69 :: l) [nm ++ ([32, 61, 32] ++ tell t)] := by
  obtain ⟨p, hu⟩ := undis_name hm (pieceOf t ++ 69 :: l)
  exact Bnd.cons _ _ _ _ _ _ p [] hu (ht.type (69 :: l)) (Bnd.nil 69 l (by decide))
/-- The path i, read as a type is. -/
theorem path_i (sep : Bool) (k : List UInt8) : Says 74 #[.bool sep] 0 false (67 :: 49 :: 105 :: k) k [105] NS :=
  path_C sep 0 false (49 :: 105 :: k) k [105] [105] 0 (names_one 105 (by decide) k) (by simp) (by decide) rfl
theorem idW_46 {nm : List UInt8} (h : nameB nm = true) : ∀ x ∈ idW nm, x ≠ 46 := by
  have := (enc_ok _ (.mk 1 0 nm 0 false []) (Nat.le_refl _) 0 (by omega) (.crate 0 0 nm 0 false (by omega) h)).1
  intro x hx e
  subst e
  exact this 46 (by
    have e1 : enc idW (.mk 1 0 nm 0 false []) = 67 :: idW nm := by simp [enc, dis, nameText, nameB_nil h, pt, sepOf]
    rw [e1]; exact List.mem_cons_of_mem _ hx) rfl
theorem idW_max {nm : List UInt8} (h : nameB nm = true) : (idW nm).length ≤ 1100 := by
  have := (enc_ok _ (.mk 1 0 nm 0 false []) (Nat.le_refl _) 0 (by omega) (.crate 0 0 nm 0 false (by omega) h)).2
  have e1 : enc idW (.mk 1 0 nm 0 false []) = 67 :: idW nm := by simp [enc, dis, nameText, nameB_nil h, pt, sepOf]
  rw [e1] at this
  simp [size, sizes] at this
  omega
theorem nameB_len {nm : List UInt8} (h : nameB nm = true) : nm.length ≤ 1200 := by
  have := txt_ok _ (.mk 1 0 nm 0 false []) (Nat.le_refl _) 0 (by omega) (.crate 0 0 nm 0 false (by omega) h) .t 0
  simp [size, sizes, txt] at this
  omega
/-- The trait i with a binding. -/
theorem read_binding1 {nm : List UInt8} (hm : nameB nm = true) {t : RT} (ht : FitT t) : ReadAs (nameOf (68 :: 67 :: 49 :: 105 :: 112 :: (idW nm ++ (pieceOf t ++ [69, 76, 95])))) (toldOf (100 :: 121 :: 110 :: 32 :: 105 :: 60 :: (nm ++ (32 :: 61 :: 32 :: (tell t ++ [62]))))) := by
  have h1 := ht.len
  have h2 := ht.tlen
  have h3 := idW_max hm
  have h4 := nameB_len hm
  have hb := one_bnd hm ht [76, 95, 69]
  have hs := start_path 0 false 67 (by decide) (49 :: 105 :: 112 :: (idW nm ++ (pieceOf t ++ [69, 76, 95, 69]))) (112 :: (idW nm ++ (pieceOf t ++ [69, 76, 95, 69]))) [105] (path_i false _)
  have hd := dynTrait_any 0 false false _ _ _ _ (105 :: 60 :: (nm ++ (32 :: 61 :: 32 :: (tell t ++ [62])))) _ hs hb (by simp [bndText, joined, tailText])
  refine read_type 68 (67 :: 49 :: 105 :: 112 :: (idW nm ++ (pieceOf t ++ [69, 76, 95]))) _ ?_ (by decide) (by decide) (by decide) ?_ (by simp; omega) (by simp; omega)
  · have := dyn_says 67 (49 :: 105 :: 112 :: (idW nm ++ (pieceOf t ++ [69, 76, 95, 69]))) [69] _ [105 :: 60 :: (nm ++ (32 :: 61 :: 32 :: (tell t ++ [62])))] (Trs.cons 67 _ _ _ _ _ (by decide) hd (Trs.nil _)) (by decide) (by simp) rfl
    simpa [joined, tailText] using this
  · intro x hx
    simp only [List.mem_cons, List.mem_append, List.not_mem_nil, or_false] at hx
    rcases hx with rfl | rfl | rfl | rfl | rfl | hx | hx | rfl | rfl | rfl
    all_goals first
      | decide
      | exact idW_46 hm x hx
      | exact ht.no46 x hx
/-- The trait i<..> with a binding. -/
theorem read_binding2 {nm : List UInt8} (hm : nameB nm = true) {g t : RT} (hg : FitT g) (ht : FitT t) : ReadAs (nameOf (68 :: 73 :: 67 :: 49 :: 105 :: (pieceOf g ++ (69 :: 112 :: (idW nm ++ (pieceOf t ++ [69, 76, 95])))))) (toldOf (100 :: 121 :: 110 :: 32 :: 105 :: 60 :: (tell g ++ (44 :: 32 :: (nm ++ (32 :: 61 :: 32 :: (tell t ++ [62]))))))) := by
  have h0 := hg.len
  have h01 := hg.tlen
  have h1 := ht.len
  have h2 := ht.tlen
  have h3 := idW_max hm
  have h4 := nameB_len hm
  have hb := one_bnd hm ht [76, 95, 69]
  have hr := runA [g] (by simp; exact hg) (112 :: (idW nm ++ (pieceOf t ++ [69, 76, 95, 69])))
  have hga := genericArgs_any 0 false _ _ (tell g) _ hr (by simp [tells, joined, tailText])
  have hs := start_I 0 false (67 :: 49 :: 105 :: (pieces [g] ++ 69 :: (112 :: (idW nm ++ (pieceOf t ++ [69, 76, 95, 69]))))) _ (112 :: (idW nm ++ (pieceOf t ++ [69, 76, 95, 69]))) [105] (tell g) _ NS T0 (path_i false _) hga rfl
  have hd := dynTrait_any 0 false true _ _ _ _ (105 :: 60 :: (tell g ++ (44 :: 32 :: (nm ++ (32 :: 61 :: 32 :: (tell t ++ [62])))))) _ hs hb (by simp [bndText, tailText])
  refine read_type 68 (73 :: 67 :: 49 :: 105 :: (pieceOf g ++ (69 :: 112 :: (idW nm ++ (pieceOf t ++ [69, 76, 95]))))) _ ?_ (by decide) (by decide) (by decide) ?_ (by simp; omega) (by simp; omega)
  · have := dyn_says 73 (67 :: 49 :: 105 :: (pieces [g] ++ 69 :: (112 :: (idW nm ++ (pieceOf t ++ [69, 76, 95, 69]))))) [69] _ [105 :: 60 :: (tell g ++ (44 :: 32 :: (nm ++ (32 :: 61 :: 32 :: (tell t ++ [62])))))] (Trs.cons 73 _ _ _ _ _ (by decide) hd (Trs.nil _)) (by decide) (by simp) rfl
    simpa [joined, tailText, pieces] using this
  · intro x hx
    simp only [List.mem_cons, List.mem_append, List.not_mem_nil, or_false] at hx
    rcases hx with rfl | rfl | rfl | rfl | rfl | hx | rfl | rfl | hx | hx | rfl | rfl | rfl
    all_goals first
      | decide
      | exact hg.no46 x hx
      | exact idW_46 hm x hx
      | exact ht.no46 x hx
end Go.Proofs.YtidokamjbglkbaaGreatDoor

/- Refusals: the reader fails. -/
namespace Go.Proofs.YtidokamjbglkbaaGreatDoor
open Go.RowKit

abbrev tDE : TypeId := 79
/-- The reader's own error. -/
def errOf (s : ByteArray) (off : Int) : Value := .iface tDE (.agg #[.string s, .int .i64 off])
/-- The reader has failed: a panic with an error of its own is on its way. -/
def Died (e : Ending) : Prop := ∃ (s : ByteArray) (off : Int), e = .panicked [{ v := .iface tDE (.agg #[.string s, .int .i64 off]), recovered := false }]

set_option maxHeartbeats 1000000 in
set_option maxRecDepth 100000 in
theorem fail_any {B b : Nat} {r : RS} {w : World} (h : Rst B b r w) (s : ByteArray) :
    Calls Tryz.prog 57 #[.pointer (some ⟨b, 0, none⟩), .string s] w fun e w' => Died e ∧ w' = w := by
  have c2 : w.cell? ⟨b, 2, none⟩ = some (.int .i64 r.off) := by obtain ⟨ad, buf, h'⟩ := h; exact h'.c2
  clear h
  go_enter Tryz.func57, Tryz.ntmps57
  go_wp2
  exact ⟨rfl, ⟨_, _, rfl⟩, rfl⟩

/-- A part of the reader fails at inp, when it has written n bytes at most. -/
def Refuses (f : FuncId) (xs : Array Value) (lb : Nat) (sk : Bool) (inp : List UInt8) (n : Nat) : Prop :=
  ∀ (B b : Nat) (r : RS) (w : World), Rst B b r w → r.skip = sk → r.life = lb → r.str = inp → (r.skip = false → r.out.length + n ≤ 1000000000) →
    Calls Tryz.prog f (#[.pointer (some ⟨b, 0, none⟩)] ++ xs) w fun e w' => Died e ∧ Kept B w w'
theorem At.refuse {B b : Nat} {r0 : RS} {w0 w : World} {k txt : List UInt8} {G : Nat → Prop} {f : FuncId} {xs : Array Value} {lb n : Nat} {sk : Bool} (hf : Refuses f xs lb sk k n) (h : At B b r0 w0 k txt G w) (hs : r0.skip = sk) (hb : r0.life = lb)
    (hl : r0.skip = false → r0.out.length + (txt.length + n) ≤ 1000000000) : Calls Tryz.prog f (#[.pointer (some ⟨b, 0, none⟩)] ++ xs) w fun e w' => Died e ∧ Kept B w0 w' := by
  obtain ⟨o, l, h1, h2, h3, h4⟩ := h
  have hb2 := RS.to_len r0 k o l txt
  exact (hf B b _ w h3 hs hb rfl (fun e => by have := hl e; omega)).mono fun e w' ⟨d, kk⟩ => ⟨d, h4.trans kk⟩
theorem At.failed {B b : Nat} {r0 : RS} {w0 w : World} {k txt : List UInt8} {G : Nat → Prop} (h : At B b r0 w0 k txt G w) (s : ByteArray) :
    Calls Tryz.prog 57 #[.pointer (some ⟨b, 0, none⟩), .string s] w fun e w' => Died e ∧ Kept B w0 w' := by
  obtain ⟨o, l, h1, h2, h3, h4⟩ := h
  exact (fail_any h3 s).mono fun e w' ⟨d, hw⟩ => ⟨d, hw ▸ h4⟩

set_option maxHeartbeats 2000000 in
set_option maxRecDepth 100000 in
/-- No path begins with another letter. -/
theorem path_other (sep : Bool) (lb : Nat) (sk : Bool) (c : UInt8) (l : List UInt8) (hc : ¬ (65 ≤ c.toNat ∧ c.toNat ≤ 90)) : Refuses 74 #[.bool sep] lb sk (c :: l) 0 := by
  intro B b r w hr hsk hlb hi _
  have c1 : w.cell? ⟨b, 1, none⟩ = some (.string (bs r.str)) := by obtain ⟨ad, buf, h'⟩ := hr; exact h'.c1
  rw [hi] at c1
  have hlt := hr.lt
  have hln := hr.len
  rw [hi] at hln
  simp only [List.length_cons] at hln
  have A := Lib.hid (At.start ((hr.alloc (.cells #[.pointer (some ⟨b, 0, none⟩)] 82)).alloc (.cells #[.bool sep] 4)))
  have d1 : ((c.toNat : Int) == 67) = false := by rw [beq_eq_false_iff_ne]; omega
  have d2 : ((c.toNat : Int) == 77) = false := by rw [beq_eq_false_iff_ne]; omega
  have d3 : ((c.toNat : Int) == 88) = false := by rw [beq_eq_false_iff_ne]; omega
  have d4 : ((c.toNat : Int) == 89) = false := by rw [beq_eq_false_iff_ne]; omega
  have d5 : ((c.toNat : Int) == 78) = false := by rw [beq_eq_false_iff_ne]; omega
  have d6 : ((c.toNat : Int) == 73) = false := by rw [beq_eq_false_iff_ne]; omega
  have d7 : ((c.toNat : Int) == 66) = false := by rw [beq_eq_false_iff_ne]; omega
  clear hi hsk hlb hr hc
  go_enter Tryz.func74, Tryz.ntmps74
  go_wp2_with (go_at_call 57; refine (At.failed A.out _).mono ?_)
  rintro e w1 ⟨⟨s, off, rfl⟩, kk⟩
  go_wp2
  exact ⟨rfl, ⟨_, _, rfl⟩, (((Kept.refl B w).alloc _).alloc _).trans kk⟩

set_option maxHeartbeats 2000000 in
set_option maxRecDepth 100000 in
/-- Behind a whole name nothing but a path may stand. -/
theorem symbol_more (c d : UInt8) (inp l txt : List UInt8) (G : Nat → Prop) (hp : Says 74 #[.bool true] 0 false (c :: inp) (d :: l) txt G) (hc : c.toNat < 48 ∨ 57 < c.toNat) (hd : Refuses 74 #[.bool false] 0 true (d :: l) 0) :
    Refuses 56 #[] 0 false (c :: inp) txt.length := by
  intro B b r w hr hsk hlb hi ho
  have c1 : w.cell? ⟨b, 1, none⟩ = some (.string (bs r.str)) := by obtain ⟨ad, buf, h'⟩ := hr; exact h'.c1
  rw [hi] at c1
  have HI := Lib.hid hi
  have HSK := Lib.hid hsk
  have HLB := Lib.hid hlb
  have HC := Lib.hid hc
  have A := At.start hr
  rw [hi] at A
  have HO := Lib.hid ho
  clear hi hsk hlb hc ho
  go_enter Tryz.func56, Tryz.ntmps56
  go_wp2_with (first
    | (go_at_call 73; refine (isDigit_no c.toNat _ HC.out).mono ?_; rintro e w' ⟨rfl, rfl⟩)
    | (go_at_call 74; refine (A.says hp HSK.out HLB.out (fun e => by simpa using HO.out e)).mono ?_))
  rintro e w1 ⟨rfl, A'⟩
  clear c1 A
  have c1 := A'.c1
  have c5 := A'.c5
  have f5 := A'.fz 5
  have hln := A'.len.2
  simp only [List.length_cons] at hln
  obtain ⟨o, l', h1, h2, h3, h4⟩ := A'
  have H3 := Lib.hid (h3.setSkip true)
  have H4 := Lib.hid (h3.keeps h4 5 (.bool true))
  clear h1 h2 h3 h4
  go_wp2_with (go_at_call 74; refine (hd B b _ _ H3.out rfl (by simpa using HLB.out) rfl (fun e => by simp at e)).mono ?_)
  rintro e w2 ⟨⟨s, off, rfl⟩, kk⟩
  go_wp2
  exact ⟨rfl, ⟨_, _, rfl⟩, H4.out.trans kk⟩

theorem assert_err (v : Value) (w : World) : (Instr.typeAssert (.iface tDE v) 20 tDE true).run Tryz.prog w = .ok (.tuple #[v, .bool true]) w := by kernel_rfl

set_option maxHeartbeats 2000000 in
set_option maxRecDepth 100000 in
/-- The deferred closure, where the frame below panics with the reader's own error. -/
theorem top_catch (k : Nat) (s : ByteArray) (off : Int) (older : List PanicEntry) (w : World) (D0 : w.heap[k]? = some (.cells #[.string ⟨#[]⟩] 9 (0, 0))) (D1 : w.heap[k + 1]? = some (.cells #[.nilIface] 60 (0, 0))) :
    CallsD Tryz.prog 52 #[.pointer (some ⟨k, 0, none⟩), .pointer (some ⟨k + 1, 0, none⟩)] (.panicking ({ v := .iface tDE (.agg #[.string s, .int .i64 off]), recovered := false } :: older)) w fun e u' w' =>
      e = .returned (.tuple #[]) ∧ u' = .panicking ({ v := .iface tDE (.agg #[.string s, .int .i64 off]), recovered := true } :: older) ∧
        w'.heap[k]? = some (.cells #[.string ⟨#[]⟩] 9 (0, 0)) ∧ w'.heap[k + 1]? = some (.cells #[.iface tDE (.agg #[.string s, .int .i64 off])] 60 (0, 0)) ∧ Below k w w' := by
  have lt0 : k < w.heap.size := (Array.getElem?_eq_some_iff.1 D0).1
  have lt1 : k + 1 < w.heap.size := (Array.getElem?_eq_some_iff.1 D1).1
  have c0 : w.cell? ⟨k, 0, none⟩ = some (.string ⟨#[]⟩) := by rw [cellAt D0]; rfl
  have z0 : w.frozen? ⟨k, 0, none⟩ = false := Lib.frozen_of_heap D0 0
  have c1 : w.cell? ⟨k + 1, 0, none⟩ = some .nilIface := by rw [cellAt D1]; rfl
  have z1 : w.frozen? ⟨k + 1, 0, none⟩ = false := Lib.frozen_of_heap D1 0
  have HD0 := Lib.hid D0
  have HD1 := Lib.hid D1
  clear D0 D1
  refine callsD_of_wpS Tryz.func52 rfl fun c₀ cs hu => ?_
  apply wpS_seq
  apply wpS_region
  simp [wpOpsS, go_sem, recoverD, hu, Tryz.ntmps52, Exit.thenS]
  apply wpS_seq
  apply wpS_region
  simp [wpOpsS, go_sem, Exit.thenS]
  refine wpS_cond (t := true) (by simp [Act.eval]) ?_
  simp only [if_true]
  refine wpS_of_wp ?_
  change Code.wp Tryz.prog _ _ { tmps := #[.pointer (some ⟨k, 0, none⟩), .pointer (some ⟨k + 1, 0, none⟩), .iface tDE (.agg #[.string s, .int .i64 off]), undef, undef, .iface tDE (.agg #[.string s, .int .i64 off]), .iface tDE (.agg #[.string s, .int .i64 off]), .bool true, undef, undef, undef, undef, undef, undef, undef, undef, undef], defers := [] } w
  have HA := assert_err
  go_wp2
  have E0 : (w.setCell ⟨k, 0, none⟩ (.string ⟨#[]⟩)).heap[k]? = some (.cells #[.string ⟨#[]⟩] 9 (0, 0)) := setCell_heap HD0.out 0 _
  have E1 : (w.setCell ⟨k, 0, none⟩ (.string ⟨#[]⟩)).heap[k + 1]? = some (.cells #[.nilIface] 60 (0, 0)) := by rw [Below.heap_setCell _ _ _ _ (by simp)]; exact HD1.out
  have F0 : ((w.setCell ⟨k, 0, none⟩ (.string ⟨#[]⟩)).setCell ⟨k + 1, 0, none⟩ (.iface tDE (.agg #[.string s, .int .i64 off]))).heap[k]? = some (.cells #[.string ⟨#[]⟩] 9 (0, 0)) := by rw [Below.heap_setCell _ _ _ _ (by simp)]; exact E0
  have F1 : ((w.setCell ⟨k, 0, none⟩ (.string ⟨#[]⟩)).setCell ⟨k + 1, 0, none⟩ (.iface tDE (.agg #[.string s, .int .i64 off]))).heap[k + 1]? = some (.cells #[.iface tDE (.agg #[.string s, .int .i64 off])] 60 (0, 0)) := setCell_heap E1 0 _
  have sz : ((w.setCell ⟨k, 0, none⟩ (.string ⟨#[]⟩)).setCell ⟨k + 1, 0, none⟩ (.iface tDE (.agg #[.string s, .int .i64 off]))).heap.size = w.heap.size := by simp [World.setCell]
  have G0 := (Below.heap_alloc _ (.cells #[.string s, .int .i64 off] tDE) k (by rw [sz]; exact lt0)).trans F0
  have G1 := (Below.heap_alloc _ (.cells #[.string s, .int .i64 off] tDE) (k + 1) (by rw [sz]; exact lt1)).trans F1
  have GB : Below k w (((w.setCell ⟨k, 0, none⟩ (.string ⟨#[]⟩)).setCell ⟨k + 1, 0, none⟩ (.iface tDE (.agg #[.string s, .int .i64 off]))).alloc (.cells #[.string s, .int .i64 off] tDE)) :=
    ((((Below.refl k w).setCell (p := ⟨k, 0, none⟩) (Nat.le_refl _) _).setCell (p := ⟨k + 1, 0, none⟩) (Nat.le_succ _) _).alloc (by rw [sz]; omega) _)
  exact ⟨rfl, _, rfl, .tuple #[], results_none rfl _ _ _, rfl, rfl, G0, G1, GB⟩
end Go.Proofs.YtidokamjbglkbaaGreatDoor

/- A reference back: backref. -/
namespace Go.Proofs.YtidokamjbglkbaaGreatDoor
open Go.RowKit

theorem At.c9 {B b : Nat} {r0 : RS} {w0 w : World} {k txt : List UInt8} {G : Nat → Prop} (h : At B b r0 w0 k txt G w) : w.cell? ⟨b, 9, none⟩ = some (.int .i64 0) := by
  obtain ⟨_, _, _, _, ⟨ad, buf, h⟩, _⟩ := h; exact h.c9
theorem At.c0 {B b : Nat} {r0 : RS} {w0 w : World} {k txt : List UInt8} {G : Nat → Prop} (h : At B b r0 w0 k txt G w) : w.cell? ⟨b, 0, none⟩ = some (.string (bs r0.orig)) := by
  obtain ⟨_, _, _, _, ⟨ad, buf, h⟩, _⟩ := h; exact h.c0

set_option maxHeartbeats 1000000 in
/-- The deferred closure: what stood there stands there again. -/
theorem back_ends (q1 q2 q3 : Addr) (b : Nat) (s : ByteArray) (o : Int) (x y : Value) (u : FrameMode) (w : World) (h1 : w.cell? q1 = some (.string s)) (h2 : w.cell? q2 = some (.pointer (some ⟨b, 0, none⟩))) (h3 : w.cell? q3 = some (.int .i64 o))
    (c1 : w.cell? ⟨b, 1, none⟩ = some x) (c2 : w.cell? ⟨b, 2, none⟩ = some y) (f1 : w.frozen? ⟨b, 1, none⟩ = false) (f2 : w.frozen? ⟨b, 2, none⟩ = false) (e2 : q2.block ≠ b) (e3 : q3.block ≠ b) :
    CallsD Tryz.prog 112 #[.pointer (some q1), .pointer (some q2), .pointer (some q3)] u w fun e u' w' => u' = u ∧ (e = .returned (.tuple #[]) ∧ w' = (w.setCell ⟨b, 1, none⟩ (.string s)).setCell ⟨b, 2, none⟩ (.int .i64 o)) := by
  have far : ∀ (q : Addr) (v : Value), q.block ≠ b → (w.setCell ⟨b, 1, none⟩ v).cell? q = w.cell? q := by
    intro q v hq
    simp only [World.cell?, Below.heap_setCell w ⟨b, 1, none⟩ v q.block (by simpa using hq)]
  have h2' := (far q2 (.string s) e2).trans h2
  have h3' := (far q3 (.string s) e3).trans h3
  clear far
  go_enter_d Tryz.func112, Tryz.ntmps112
  go_wp2
  go_end0
  exact ⟨rfl, rfl⟩

set_option maxHeartbeats 8000000 in
set_option maxRecDepth 100000 in
/-- A reference back to a type. -/
theorem backref_T {B b : Nat} {r : RS} {w : World} (hr : Rst B b r w) (hsk : r.skip = false) (n : Nat) (k piece t : List UInt8) (hi : r.str = 66 :: (b62 n ++ k)) (hn : n < r.off) (hg : r.off + r.str.length = r.orig.length) (hbig : r.orig.length ≤ 400000000)
    (hp : (r.orig.drop n).take (r.off - n) = piece) (h : Says 86 #[] r.life false piece [] t NS) (hout : r.out.length + t.length ≤ 1000000000) :
    Calls Tryz.prog 90 #[.pointer (some ⟨b, 0, none⟩), .func (.func 86) #[.pointer (some ⟨b, 0, none⟩)] #[]] w (Post B b r (66 :: (b62 n ++ k)) k t NS w) := by
  have hmf : ∀ (fn : Fn) (first cap : Array Value) (w : World), (Instr.makeFunc fn first cap).run Tryz.prog w = .ok (.func fn first cap) w := fun _ _ _ _ => rfl
  have c2 : w.cell? ⟨b, 2, none⟩ = some (.int .i64 r.off) := by obtain ⟨ad, buf, h'⟩ := hr; exact h'.c2
  have hlt := hr.lt
  have ho : r.off ≤ r.orig.length := by omega
  have A := At.start (hr.alloc (.cells #[.pointer (some ⟨b, 0, none⟩)] 82))
  have B0 := Box.new w 82 (.pointer (some ⟨b, 0, none⟩))
  rw [hi] at A
  have HI := Lib.hid hi
  have HG := Lib.hid hg
  clear hg
  have HSK := Lib.hid hsk
  have HO := Lib.hid hout
  have HP := Lib.hid hp
  clear hi hout hp
  go_enter_defers Tryz.func90, Tryz.ntmps90
  go_wp2_with fail
  refine (A.chk 66 66 rfl).mono ?_
  rintro e w1 ⟨rfl, A1⟩
  clear A c2
  have cB0 := A1.box B0 (by decide)
  go_wp2_with fail
  refine (A1.base62 n k (by omega)).mono ?_
  rintro e w2 ⟨rfl, A2⟩
  clear A1 cB0
  have cB0 := A2.box B0 (by decide)
  have c5 := A2.c5
  rw [hsk] at c5
  have c9 := A2.c9
  have c0 := A2.c0
  have c1 := A2.c1
  have hlt2 := A2.lt
  have f1 := A2.fz 1
  have f2 := A2.fz 2
  have c2 : ∃ o : Nat, w2.cell? ⟨b, 2, none⟩ = some (.int .i64 o) ∧ o + k.length = r.off + r.str.length := by
    obtain ⟨o, l, a1, _, ⟨ad, buf, a3⟩, _⟩ := A2
    exact ⟨o, a3.c2, a1⟩
  obtain ⟨o2, c2, ho2⟩ := c2
  have hbx : w.heap.size < w2.heap.size := (B0.kept A2.kept (by decide)).lt
  have hd1 : decide ((n : Int) < 0) = false := by simp
  have hd2 : decide ((r.off : Int) ≤ (n : Int)) = false := by simp; omega
  go_wp2
  have b0' := B0.kept A2.kept (by decide)
  go_quiet (fail)
  have A3 := A2.drewN nq
  clear cB0 c5 c9 c0 c1 hlt2 f1 f2 c2 ho2 hbx b0' A2
  generalize w2.drewN nq = w3 at A3 ⊢
  have cB0 := A3.box B0 (by decide)
  have c0 := A3.c0
  have c1 := A3.c1
  have f1 := A3.fz 1
  have f2 := A3.fz 2
  have hlt3 := A3.lt
  have c2 : ∃ o : Nat, w3.cell? ⟨b, 2, none⟩ = some (.int .i64 o) ∧ o + k.length = r.off + r.str.length := by
    obtain ⟨o, l, a1, _, ⟨ad, buf, a3⟩, _⟩ := A3
    exact ⟨o, a3.c2, a1⟩
  obtain ⟨o3, c2, ho3⟩ := c2
  have hbx : w.heap.size < w3.heap.size := (B0.kept A3.kept (by decide)).lt
  have hsl : (bs r.orig).extract n r.off = bs piece := by rw [bs_extract, HP.out]
  have hb1 : ¬ ((r.off : Int) < (n : Int)) := by omega
  have hb2 : ¬ ((r.orig.length : Int) < (r.off : Int)) := by omega
  have hb3 : (0 : Int) ≤ (n : Int) := by omega
  have hb4 : (n : Int) ≤ (r.off : Int) := by omega
  have hb5 : (r.off : Int) ≤ (r.orig.length : Int) := by omega
  go_wp2
  have A4 := (A3.alloc (.cells #[.string (bs k)] 9)).alloc (.cells #[.int .i64 o3] 3)
  obtain ⟨Q1, Q3⟩ := boxes2 w3 9 3 (.string (bs k)) (.int .i64 (o3 : Int))
  have hq1 : w3.heap.size < ((w3.alloc (.cells #[.string (bs k)] 9)).alloc (.cells #[.int .i64 o3] 3)).heap.size := by simp; omega
  generalize hW4 : (w3.alloc (.cells #[.string (bs k)] 9)).alloc (.cells #[.int .i64 o3] 3) = w4 at A4 Q1 Q3 hq1 ⊢
  obtain ⟨q, hq⟩ : ∃ q, q = w3.heap.size := ⟨_, rfl⟩
  rw [← hq] at Q1 Q3 hbx hlt3 hq1 ⊢
  clear cB0 c0 c1 f1 f2 c2 A3 hW4 hq
  have cB0 := A4.box B0 (by decide)
  have c0 := A4.c0
  have c1 := A4.c1
  have f1 := A4.fz 1
  have f2 := A4.fz 2
  have far1 : ∀ (w' : World) (v : Value), (w'.setCell ⟨b, 1, none⟩ v).cell? ⟨w.heap.size, 0, none⟩ = w'.cell? ⟨w.heap.size, 0, none⟩ := fun w' v => World.cell?_setCell_other _ _ _ _ (by intro e; have := congrArg Addr.block e; simp at this; omega)
  have far2 : ∀ (w' : World) (v : Value), (w'.setCell ⟨b, 1, none⟩ v).cell? ⟨b, 0, none⟩ = w'.cell? ⟨b, 0, none⟩ := fun w' v => World.cell?_setCell_other _ _ _ _ (by simp)
  have far3 : ∀ (w' : World) (v : Value), (w'.setCell ⟨b, 1, none⟩ v).cell? ⟨b, 2, none⟩ = w'.cell? ⟨b, 2, none⟩ := fun w' v => World.cell?_setCell_other _ _ _ _ (by simp)
  have c2 : ∃ o : Nat, w4.cell? ⟨b, 2, none⟩ = some (.int .i64 o) := by
    obtain ⟨o, l, a1, _, ⟨ad, buf, a3⟩, _⟩ := A4
    exact ⟨o, a3.c2⟩
  obtain ⟨o4, c2⟩ := c2
  go_region_held3 (fun w' => w'.cell? ⟨w.heap.size, 0, none⟩ = some (.pointer (some ⟨b, 0, none⟩)) ∧ w'.cell? ⟨b, 0, none⟩ = some (.string (bs r.orig))) (go_keep) (fail)
  go_wp2_with fail
  obtain ⟨o, l, e1, _, ⟨ad, buf, hv⟩, hk⟩ := A4
  have hg := HG.out
  have hpl : piece.length ≤ r.off - n := by rw [← HP.out, List.length_take]; omega
  have V1 := hv.setStr piece (by show o + piece.length ≤ _; omega)
  have V2 := V1.setOff n rfl (by show n + piece.length ≤ _; omega)
  have V5 := V2.drew
  have KA := Kept.refl B w4
  have K5 : Kept B w4 ((w4.setCell ⟨b, 1, none⟩ (.string (bs piece))).setCell ⟨b, 2, none⟩ (.int .i64 n)).drew := (V1.keeps (hv.keeps KA 1 _) 2 _).drew
  have HK := Lib.hid hk
  have HSZ := Lib.hid hpl
  have hol : r.out.length + t.length ≤ 1000000000 := HO.out
  clear hv V1 V2 hk cB0 c0 c1 f1 f2 far1 far2 far3 c2 KA
  refine (h B b _ _ V5.rst hsk rfl rfl (fun _ => ?_)).mono ?_
  · show (r.to k o [] l).out.length + t.length ≤ _
    have := RS.to_len r k o l []
    simp at this
    omega
  rintro e w6 ⟨rfl, o', l', ho', hG, R6, K6⟩
  have K56 := K5.trans K6
  have q1 := (Q1.kept K56 (by decide)).cell
  have q3 := (Q3.kept K56 (by decide)).cell
  have q2 := ((B0.kept HK.out (by decide)).kept K56 (by decide)).cell
  obtain ⟨ad6, buf6, v6⟩ := R6
  have d1 := v6.c1
  have d2 := v6.c2
  have g1 := v6.fz 1
  have g2 := v6.fz 2
  have ho'' : o' = n + piece.length := by simpa using ho'
  have W1 := v6.setStr k (by show o' + k.length ≤ _; have := HSZ.out; omega)
  have W2 := W1.setOff o3 rfl (by show o3 + k.length ≤ _; omega)
  have K7 := Lib.hid (W1.keeps (v6.keeps ((((Kept.refl B w).alloc _).trans HK.out).trans K56) 1 (.string (bs k))) 2 (.int .i64 (o3 : Int)))
  have FIN := Lib.hid W2.rst
  have HNS := Lib.hid (hG hsk)
  clear V5 K5 K6 K56 ho' W1 W2 v6 hG h
  go_wp2
  refine leaves_cons (f := 112) (args := #[.pointer (some ⟨q, 0, none⟩), .pointer (some ⟨w.heap.size, 0, none⟩), .pointer (some ⟨q + 1, 0, none⟩)]) (by simp) (by simp [go_sem]) ?_
  refine (back_ends ⟨q, 0, none⟩ ⟨w.heap.size, 0, none⟩ ⟨q + 1, 0, none⟩ b (bs k) o3 _ _ .returning w6 q1 q2 q3 d1 d2 g1 g2 (by simp; omega) (by simp; omega)).mono ?_
  rintro e u' w'' ⟨rfl, rfl, rfl⟩
  refine ⟨_, results_none rfl _ _ _, ?_⟩
  refine ⟨rfl, o3, l', by rw [← HI.out]; exact ho3, fun _ => HNS.out, FIN.out.cast ?_, K7.out⟩
  cases r
  have := hsk
  simp only at this
  subst this
  simp [RS.to]
end Go.Proofs.YtidokamjbglkbaaGreatDoor

/- rustToString, Told and the laws' rustRefused, where the reader fails. -/
namespace Go.Proofs.YtidokamjbglkbaaGreatDoor
open Go.RowKit

set_option maxHeartbeats 4000000 in
set_option maxRecDepth 100000 in
theorem toString_dies (c : UInt8) (inp : List UInt8) (n : Nat) (hp : Refuses 56 #[] 0 false (c :: inp) n)
    (hdot : ∀ x ∈ 95 :: 82 :: c :: inp, x ≠ 46) (hlen : inp.length ≤ 100000000) (hn : n ≤ 1000000000) (B : Nat) (w : World) (hT : Tabs B w) (hB : B ≤ w.heap.size) :
    Calls Tryz.prog 39 #[.string (bs (95 :: 82 :: c :: inp)), .slice none 0 0] w fun e w' => (∃ (s : ByteArray) (off : Int), e = .returned (.tuple #[.string ⟨#[]⟩, .iface tDE (.agg #[.string s, .int .i64 off])])) ∧ Below w.heap.size w w' := by
  have hmf : ∀ (fn : Fn) (first cap : Array Value) (w : World), (Instr.makeFunc fn first cap).run Tryz.prog w = .ok (.func fn first cap) w := fun _ _ _ _ => rfl
  have HX := Lib.hid (fun w => index_none (95 :: 82 :: c :: inp) 46 hdot (by simp; omega) w)
  have HP : Hid (∀ w, Calls Tryz.prog 51 #[.string (bs (95 :: 82 :: c :: inp)), .string (bs [95, 82])] w fun e w' => e = .returned (.bool true) ∧ w' = w) := by
    intro w
    refine (Tryz.strings_HasPrefix (bs (95 :: 82 :: c :: inp)) (bs [95, 82]) w).mono ?_
    rintro e w' ⟨rfl, rfl⟩
    exact ⟨by simp [Lib.hasPrefix], rfl⟩
  have b1 : Below w.heap.size w ((w.alloc (.cells #[.string ⟨#[]⟩] 9)).alloc (.cells #[.nilIface] 60)) := ((Below.refl _ _).alloc (Nat.le_refl _) _).alloc (by simp) _
  have F := Rst.fresh (hT.same fun k hk => (b1.mono hB).block k hk) (by simp; omega : B ≤ ((w.alloc (.cells #[.string ⟨#[]⟩] 9)).alloc (.cells #[.nilIface] 60)).heap.size) (c :: inp) (by simp; omega)
  have b2 := Lib.hid (b1.alloc (by simp; omega) (.cells ((R0 (c :: inp)).cs (.pointer none) (.slice none 0 0)) tR))
  have e1 : ((w.alloc (.cells #[.string ⟨#[]⟩] 9)).alloc (.cells #[.nilIface] 60)).heap.size = w.heap.size + 1 + 1 := by simp
  rw [e1] at F
  have A := Lib.hid F
  have HS := Lib.hid hp
  have TL := Lib.hid hn
  have hex : (bs (95 :: 82 :: c :: inp)).extract 2 (inp.length + 1 + 1 + 1) = bs (c :: inp) := by rw [bs_extract]; congr 1; simp
  clear hp hdot hT hB b1 e1 F hn
  go_enter_defers Tryz.func39, Tryz.ntmps39
  go_wp2_with (first
    | (go_at_call 51; refine (HP.out _).mono ?_; rintro e w' ⟨rfl, rfl⟩)
    | (go_at_call 53; refine (HX.out _).mono ?_; rintro e w' ⟨rfl, rfl⟩)
    | (go_at_call 56; fail))
  go_loop [10, 38] (fun _ i => i = .int .i64 0) (fun _ _ => 0)
  case atStart => rfl
  case round =>
    subst hrel
    go_wp2_with (go_at_call 56; refine (HS.out _ _ _ _ A.out rfl rfl rfl (fun _ => by simpa [R0] using TL.out)).mono ?_)
    rintro e w1 ⟨s, off, rfl⟩ K
    have b3 := Lib.hid (b2.out.trans ((K.below (by simp)).mono (by omega)))
    have hb0 : w1.heap[w.heap.size]? = some (.cells #[.string ⟨#[]⟩] 9 (0, 0)) := by
      rw [K.block _ (by simp <;> omega) (.inl (by omega)), Below.heap_alloc _ _ _ (by simp <;> omega), Below.heap_alloc _ _ _ (by simp)]
      exact heap_alloc_new w _
    have hb1 : w1.heap[w.heap.size + 1]? = some (.cells #[.nilIface] 60 (0, 0)) := by
      rw [K.block _ (by simp) (.inl (by omega)), Below.heap_alloc _ _ _ (by simp)]
      have := heap_alloc_new (w.alloc (.cells #[.string ⟨#[]⟩] 9)) (.cells #[.nilIface] 60)
      simpa using this
    have HC := Lib.hid (top_catch w.heap.size s off [] w1 hb0 hb1)
    clear hb0 hb1 K A b2
    go_wp2
    refine leaves_cons (f := 52) (args := #[.pointer (some ⟨w.heap.size, 0, none⟩), .pointer (some ⟨w.heap.size + 1, 0, none⟩)]) (by simp) (by simp [go_sem]) ?_
    refine HC.out.mono ?_
    rintro e u' w2 ⟨rfl, rfl, d0, d1, b4⟩
    have E0 : w2.cell? ⟨w.heap.size, 0, none⟩ = some (.string ⟨#[]⟩) := by rw [cellAt d0]; rfl
    have E1 : w2.cell? ⟨w.heap.size + 1, 0, none⟩ = some (.iface tDE (.agg #[.string s, .int .i64 off])) := by rw [cellAt d1]; rfl
    have B5 := Lib.hid (b3.out.trans b4)
    clear d0 d1 b4
    simp [Leaves, settle, results, Tryz.results39, go_sem, E0, E1]
    exact B5.out

/-- A whole name is refused. -/
def RefusedAs (s : List UInt8) : Prop := ∀ (B : Nat) (w : World), Tabs B w → B ≤ w.heap.size →
  Calls Tryz.prog 39 #[.string (bs s), .slice none 0 0] w fun e w' => (∃ (m : ByteArray) (off : Int), e = .returned (.tuple #[.string ⟨#[]⟩, .iface tDE (.agg #[.string m, .int .i64 off])])) ∧ Below w.heap.size w w'

abbrev gErr : Nat := 0
/-- The variable of the one other error holds an error of another type. -/
def ErrAt (w : World) : Prop := ∃ (u : TypeId) (v : Value), u ≠ tDE ∧ w.cell? ⟨gErr, 0, none⟩ = some (.iface u v) ∧ gErr < w.heap.size
theorem ErrAt.step {w w' : World} (h : ErrAt w) (b : Below w.heap.size w w') : ErrAt w' := by
  obtain ⟨u, v, h1, h2, h3⟩ := h
  refine ⟨u, v, h1, ?_, by have := b.size; omega⟩
  rw [← h2]
  simp only [World.cell?, b.block _ h3]

/-- Errors of different types are different. -/
theorem eql_other {P : Program} (w : World) {t tx ty : TypeId} {ms : Array (String × TypeId)} (x y : Value) (ht : P.underlying t = some (.interface ms)) (hne : tx ≠ ty) :
    (binOp .eql t (.iface tx x) (.iface ty y)).run P w = .ok (.bool false) w := by
  have h : ∀ d : Nat, (Op.equalIn (d + 1) t (.iface tx x) (.iface ty y)).run P w = .ok false w := fun d => by
    simp [Op.equalIn, run_underlying ht, hne]
  simp only [binOp]
  simp [Op.equal, Op.maxDepth, h 9999]

set_option maxHeartbeats 1000000 in
set_option maxRecDepth 100000 in
theorem fault_any (m : ByteArray) (off : Int) (w : World) (h : ErrAt w) : Calls Tryz.prog 29 #[.iface tDE (.agg #[.string m, .int .i64 off])] w fun e w' => e = .returned (.int .i64 2) ∧ w' = w := by
  obtain ⟨u, v, hu, hc, _⟩ := h
  have he := eql_other w (.agg #[.string m, .int .i64 off]) v Tryz.underlying60 (fun e => hu e.symm)
  clear hu
  go_enter Tryz.func29, Tryz.ntmps29
  go_wp2
  go_ret
  exact ⟨rfl, rfl⟩

set_option maxHeartbeats 4000000 in
set_option maxRecDepth 100000 in
theorem told_refused (s : List UInt8) (h : RefusedAs s) (B : Nat) (w : World) (hT : Tabs B w) (hB : B ≤ w.heap.size) (hE : ErrAt w) :
    Calls Tryz.prog 22 #[.string (bs s), noOpts] w fun e w' => e = .returned (.tuple #[.string ⟨#[]⟩, .int .i64 2]) ∧ Below w.heap.size w w' := by
  have HH := Lib.hid h
  have HT := Lib.hid hT
  have HE := Lib.hid hE
  clear h hT hE
  go_enter Tryz.func22, Tryz.ntmps22
  go_wp2_with (go_at_call 28; refine (list_none _).mono ?_)
  rintro e w1 ⟨rfl, b1⟩
  have b2 := ((Below.refl w.heap.size w).alloc (Nat.le_refl _) _).trans (b1.mono (by simp))
  have T2 := Lib.hid (HT.out.same fun k hk => b2.block k (by omega))
  have B2 := Lib.hid b2
  have S2 := b2.size
  have S3 := Lib.hid (show B ≤ w1.heap.size by omega)
  clear b1 b2 S2
  go_wp2_with (first
    | (go_at_call 39; refine (HH.out B _ T2.out S3.out).mono ?_)
    | (go_at_call 27; go_in))
  rintro e w3 ⟨⟨m, off, rfl⟩, b3⟩
  have b4 := Lib.hid (B2.out.trans (b3.mono B2.out.size))
  have HF := Lib.hid (fault_any m off w3 (HE.out.step b4.out))
  clear b3 T2
  go_wp2_with (go_at_call 29; refine HF.out.mono ?_; rintro e w' ⟨rfl, rfl⟩)
  go_ret2
  exact ⟨rfl, b4.out⟩

set_option maxHeartbeats 4000000 in
set_option maxRecDepth 100000 in
theorem refused_any (s : List UInt8) (h : RefusedAs s) (B : Nat) (w : World) (hT : Tabs B w) (hB : B ≤ w.heap.size) (hE : ErrAt w) :
    Calls Tryz.prog 17 #[.string (bs s)] w fun e w' => e = .returned (.bool true) ∧ Below w.heap.size w w' := by
  have HD := Lib.hid (told_refused _ h B w hT hB hE)
  clear h hT hB hE
  go_enter Tryz.func17, Tryz.ntmps17
  go_wp2_with (go_at_call 22; refine HD.out.mono ?_)
  rintro e w1 ⟨rfl, b1⟩
  go_wp2
  go_ret
  exact ⟨rfl, b1⟩
end Go.Proofs.YtidokamjbglkbaaGreatDoor

