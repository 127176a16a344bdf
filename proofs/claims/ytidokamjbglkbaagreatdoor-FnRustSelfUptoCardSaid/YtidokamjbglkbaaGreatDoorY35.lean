/- References back that are refused. -/
import Derived.Test.YtidokamjbglkbaaGreatDoorY33
import Derived.Test.YtidokamjbglkbaaGreatDoorY34
import Derived.Test.YtidokamjbglkbaaGreatDoorY32
import Derived.Test.YtidokamjbglkbaaGreatDoorY31
namespace Go.Proofs.YtidokamjbglkbaaGreatDoor
open Go.RowKit

set_option maxHeartbeats 8000000 in
set_option maxRecDepth 100000 in
theorem backref_bad {B b : Nat} {r : RS} {w : World} (hr : Rst B b r w) (hsk : r.skip = false) (n : Nat) (k : List UInt8) (hi : r.str = 66 :: (b62 n ++ k)) (hn : r.off ≤ n) (hnb : n ≤ 1000000000) (_hg : r.off + r.str.length = r.orig.length) (_hbig : r.orig.length ≤ 400000000) :
    Calls Tryz.prog 90 #[.pointer (some ⟨b, 0, none⟩), .func (.func 86) #[.pointer (some ⟨b, 0, none⟩)] #[]] w fun e w' => Died e ∧ Kept B w w' := by
  have hmf : ∀ (fn : Fn) (first cap : Array Value) (w : World), (Instr.makeFunc fn first cap).run Tryz.prog w = .ok (.func fn first cap) w := fun _ _ _ _ => rfl
  have c2 : w.cell? ⟨b, 2, none⟩ = some (.int .i64 r.off) := by obtain ⟨ad, buf, h'⟩ := hr; exact h'.c2
  have hlt := hr.lt
  have A := At.start (hr.alloc (.cells #[.pointer (some ⟨b, 0, none⟩)] 82))
  have B0 := Box.new w 82 (.pointer (some ⟨b, 0, none⟩))
  rw [hi] at A
  clear hi
  go_enter_defers Tryz.func90, Tryz.ntmps90
  go_wp2_with fail
  refine (A.chk 66 66 rfl).mono ?_
  rintro e w1 ⟨rfl, A1⟩
  clear A c2
  have cB0 := A1.box B0 (by decide)
  go_wp2_with fail
  refine (A1.base62 n k (by omega)).mono ?_
  rintro e w2 ⟨rfl, A2⟩
  clear A1 cB0
  have cB0 := A2.box B0 (by decide)
  have c5 := A2.c5
  rw [hsk] at c5
  have c9 := A2.c9
  have hd1 : decide ((n : Int) < 0) = false := by simp
  have hd2 : decide ((r.off : Int) ≤ (n : Int)) = true := by simp; omega
  clear hnb
  go_wp2
  go_quiet (fail)
  have A3 := A2.drewN nq
  clear cB0 c5 c9 A2
  generalize w2.drewN nq = w3 at A3 ⊢
  have cB0 := A3.box B0 (by decide)
  go_wp2_with (go_at_call 57; refine (A3.failed _).mono ?_)
  rintro e w9 ⟨⟨s, off, rfl⟩, kk⟩
  have KK := ((Kept.refl B w).alloc _).trans kk
  go_wp2
  exact ⟨⟨s, off, rfl⟩, KK⟩

/-- A part of the reader fails at inp; the reader lies there still. -/
def RefusesR (f : FuncId) (xs : Array Value) (lb : Nat) (sk : Bool) (inp : List UInt8) (n : Nat) : Prop :=
  ∀ (B b : Nat) (r : RS) (w : World), Rst B b r w → r.skip = sk → r.life = lb → r.str = inp → (r.skip = false → r.out.length + n ≤ 1000000000) →
    Calls Tryz.prog f (#[.pointer (some ⟨b, 0, none⟩)] ++ xs) w fun e w' => Died e ∧ Kept B w w' ∧ ∃ r', Rst B b r' w'
theorem At.refuseR {B b : Nat} {r0 : RS} {w0 w : World} {k txt : List UInt8} {G : Nat → Prop} {f : FuncId} {xs : Array Value} {lb n : Nat} {sk : Bool} (hf : RefusesR f xs lb sk k n) (h : At B b r0 w0 k txt G w) (hs : r0.skip = sk) (hb : r0.life = lb)
    (hl : r0.skip = false → r0.out.length + (txt.length + n) ≤ 1000000000) : Calls Tryz.prog f (#[.pointer (some ⟨b, 0, none⟩)] ++ xs) w fun e w' => Died e ∧ Kept B w0 w' ∧ ∃ r', Rst B b r' w' := by
  obtain ⟨o, l, h1, h2, h3, h4⟩ := h
  have hb2 := RS.to_len r0 k o l txt
  exact (hf B b _ w h3 hs hb rfl (fun e => by have := hl e; omega)).mono fun e w' ⟨d, kk, hR⟩ => ⟨d, h4.trans kk, hR⟩
theorem At.failedR {B b : Nat} {r0 : RS} {w0 w : World} {k txt : List UInt8} {G : Nat → Prop} (h : At B b r0 w0 k txt G w) (s : ByteArray) :
    Calls Tryz.prog 57 #[.pointer (some ⟨b, 0, none⟩), .string s] w fun e w' => Died e ∧ Kept B w0 w' ∧ ∃ r', Rst B b r' w' := by
  obtain ⟨o, l, h1, h2, h3, h4⟩ := h
  exact (fail_any h3 s).mono fun e w' ⟨d, hw⟩ => ⟨d, hw ▸ h4, hw ▸ ⟨_, h3⟩⟩

set_option maxHeartbeats 8000000 in
set_option maxRecDepth 100000 in
theorem At.chk_endR {B b : Nat} {r0 : RS} {w0 w : World} {txt : List UInt8} {G : Nat → Prop} (h : At B b r0 w0 [] txt G w) :
    Calls Tryz.prog 89 #[.pointer (some ⟨b, 0, none⟩), .int .u8 69] w fun e w' => Died e ∧ Kept B w0 w' ∧ ∃ r', Rst B b r' w' := by
  have c1 := h.c1
  have H := Lib.hid h
  have q := conv69 w
  clear h
  go_enter Tryz.func89, Tryz.ntmps89
  go_wp2_with (go_at_call 57; refine (H.out.failedR _).mono ?_)
  rintro e w1 ⟨⟨s, off, rfl⟩, kk, hR⟩
  go_wp2
  exact ⟨rfl, ⟨_, _, rfl⟩, kk, hR⟩

set_option maxHeartbeats 8000000 in
set_option maxRecDepth 100000 in
theorem path_If_end (lb : Nat) (sk : Bool) (inp k1 t1 t2 txt : List UInt8) (G1 G2 : Nat → Prop) (h1 : Says 74 #[.bool false] lb sk inp k1 t1 G1) (h2 : Says 88 #[] lb sk k1 [] t2 G2)
    (htxt : txt = t1 ++ (([60] ++ (t2 ++ [62])))) : RefusesR 74 #[.bool false] lb sk (73 :: inp) txt.length := by
  intro B b r w hr hsk hlb hi ho
  have c1 : w.cell? ⟨b, 1, none⟩ = some (.string (bs r.str)) := by obtain ⟨ad, buf, h'⟩ := hr; exact h'.c1
  rw [hi] at c1
  have hlt := hr.lt
  have hln := hr.len
  rw [hi] at hln
  simp only [List.length_cons] at hln
  have ho' := ho
  rw [htxt] at ho'
  have HO := Lib.hid ho'
  clear ho ho'
  have HI := Lib.hid hi
  have HSK := Lib.hid hsk
  have HLB := Lib.hid hlb
  have HT := Lib.hid htxt
  clear hi hsk hlb htxt
  have A := At.start ((hr.alloc (.cells #[.pointer (some ⟨b, 0, none⟩)] 82)).alloc (.cells #[.bool false] 4))
  obtain ⟨B0, B1⟩ := boxes2 w 82 4 (.pointer (some ⟨b, 0, none⟩)) (.bool false)
  rw [HI.out] at A
  go_enter Tryz.func74, Tryz.ntmps74
  go_wp2_with fail
  refine (A.adv 73).mono ?_
  rintro e w1 ⟨rfl, A'⟩
  clear c1 hlt
  clear A; have A := A'; clear A'
  have cB0 := A.box B0 (by decide)
  have cB1 := A.box B1 (by decide)
  go_wp2_with fail
  refine (A.says h1 HSK.out HLB.out (fun hs0 => by have ho' := HO.out hs0; simp at ho' ⊢; omega)).mono ?_
  rintro e w2 ⟨rfl, A'⟩
  clear cB0 cB1
  clear A; have A := A'; clear A'
  have cB0 := A.box B0 (by decide)
  have cB1 := A.box B1 (by decide)
  go_wp2_with fail
  refine (A.wb 60 60 rfl (fun hs0 => by have ho' := HO.out hs0; simp at ho' ⊢; omega)).mono ?_
  rintro e w3 ⟨rfl, A'⟩
  clear cB0 cB1
  clear A; have A := A'; clear A'
  have cB0 := A.box B0 (by decide)
  go_wp2_with fail
  refine (A.says h2 HSK.out HLB.out (fun hs0 => by have ho' := HO.out hs0; simp at ho' ⊢; omega)).mono ?_
  rintro e w4 ⟨rfl, A'⟩
  clear cB0
  clear A; have A := A'; clear A'
  have cB0 := A.box B0 (by decide)
  go_wp2_with fail
  refine (A.wb 62 62 rfl (fun hs0 => by have ho' := HO.out hs0; simp at ho' ⊢; omega)).mono ?_
  rintro e w5 ⟨rfl, A'⟩
  clear cB0
  clear A; have A := A'; clear A'
  have cB0 := A.box B0 (by decide)
  go_wp2_with fail
  refine A.chk_endR.mono ?_
  rintro e w9 ⟨⟨s, off, rfl⟩, kk, hR⟩
  go_wp2
  exact ⟨rfl, ⟨_, _, rfl⟩, (((Kept.refl B w).alloc _).alloc _).trans kk, hR⟩

set_option maxHeartbeats 8000000 in
set_option maxRecDepth 100000 in
theorem type_I_dies (lb : Nat) (sk : Bool) (inp : List UInt8) (n : Nat) (h1 : RefusesR 74 #[.bool false] lb sk (73 :: inp) n) : RefusesR 86 #[] lb sk (73 :: inp) n := by
  intro B b r w hr hsk hlb hi ho
  have c1 : w.cell? ⟨b, 1, none⟩ = some (.string (bs r.str)) := by obtain ⟨ad, buf, h'⟩ := hr; exact h'.c1
  rw [hi] at c1
  have hln := hr.len
  rw [hi] at hln
  simp only [List.length_cons] at hln
  have HB := Lib.hid (h1 B b r w hr hsk hlb hi ho)
  clear hi hsk hlb ho hr h1
  go_enter Tryz.func86, Tryz.ntmps86
  go_wp2_with fail
  refine HB.out.mono ?_
  rintro e w9 ⟨⟨s, off, rfl⟩, kk, hR⟩
  go_wp2
  exact ⟨rfl, ⟨_, _, rfl⟩, kk, hR⟩

set_option maxHeartbeats 8000000 in
set_option maxRecDepth 100000 in
theorem backref_dies {B b : Nat} {r : RS} {w : World} (hr : Rst B b r w) (hsk : r.skip = false) (n : Nat) (k piece : List UInt8) (m : Nat) (hi : r.str = 66 :: (b62 n ++ k)) (hn : n < r.off) (hg : r.off + r.str.length = r.orig.length) (hbig : r.orig.length ≤ 400000000)
    (hp : (r.orig.drop n).take (r.off - n) = piece) (h : RefusesR 86 #[] r.life false piece m) (hout : r.out.length + m ≤ 1000000000) :
    Calls Tryz.prog 90 #[.pointer (some ⟨b, 0, none⟩), .func (.func 86) #[.pointer (some ⟨b, 0, none⟩)] #[]] w fun e w' => Died e ∧ Kept B w w' := by
  have hmf : ∀ (fn : Fn) (first cap : Array Value) (w : World), (Instr.makeFunc fn first cap).run Tryz.prog w = .ok (.func fn first cap) w := fun _ _ _ _ => rfl
  have c2 : w.cell? ⟨b, 2, none⟩ = some (.int .i64 r.off) := by obtain ⟨ad, buf, h'⟩ := hr; exact h'.c2
  have hlt := hr.lt
  have ho : r.off ≤ r.orig.length := by omega
  have A := At.start (hr.alloc (.cells #[.pointer (some ⟨b, 0, none⟩)] 82))
  have B0 := Box.new w 82 (.pointer (some ⟨b, 0, none⟩))
  rw [hi] at A
  have HI := Lib.hid hi
  have HG := Lib.hid hg
  clear hg
  have HSK := Lib.hid hsk
  have HO := Lib.hid hout
  have HP := Lib.hid hp
  clear hi hout hp
  go_enter_defers Tryz.func90, Tryz.ntmps90
  go_wp2_with fail
  refine (A.chk 66 66 rfl).mono ?_
  rintro e w1 ⟨rfl, A1⟩
  clear A c2
  have cB0 := A1.box B0 (by decide)
  go_wp2_with fail
  refine (A1.base62 n k (by omega)).mono ?_
  rintro e w2 ⟨rfl, A2⟩
  clear A1 cB0
  have cB0 := A2.box B0 (by decide)
  have c5 := A2.c5
  rw [hsk] at c5
  have c9 := A2.c9
  have c0 := A2.c0
  have c1 := A2.c1
  have hlt2 := A2.lt
  have f1 := A2.fz 1
  have f2 := A2.fz 2
  have c2 : ∃ o : Nat, w2.cell? ⟨b, 2, none⟩ = some (.int .i64 o) ∧ o + k.length = r.off + r.str.length := by
    obtain ⟨o, l, a1, _, ⟨ad, buf, a3⟩, _⟩ := A2
    exact ⟨o, a3.c2, a1⟩
  obtain ⟨o2, c2, ho2⟩ := c2
  have hbx : w.heap.size < w2.heap.size := (B0.kept A2.kept (by decide)).lt
  have hd1 : decide ((n : Int) < 0) = false := by simp
  have hd2 : decide ((r.off : Int) ≤ (n : Int)) = false := by simp; omega
  go_wp2
  have b0' := B0.kept A2.kept (by decide)
  go_quiet (fail)
  have A3 := A2.drewN nq
  clear cB0 c5 c9 c0 c1 hlt2 f1 f2 c2 ho2 hbx b0' A2
  generalize w2.drewN nq = w3 at A3 ⊢
  have cB0 := A3.box B0 (by decide)
  have c0 := A3.c0
  have c1 := A3.c1
  have f1 := A3.fz 1
  have f2 := A3.fz 2
  have hlt3 := A3.lt
  have c2 : ∃ o : Nat, w3.cell? ⟨b, 2, none⟩ = some (.int .i64 o) ∧ o + k.length = r.off + r.str.length := by
    obtain ⟨o, l, a1, _, ⟨ad, buf, a3⟩, _⟩ := A3
    exact ⟨o, a3.c2, a1⟩
  obtain ⟨o3, c2, ho3⟩ := c2
  have hbx : w.heap.size < w3.heap.size := (B0.kept A3.kept (by decide)).lt
  have hsl : (bs r.orig).extract n r.off = bs piece := by rw [bs_extract, HP.out]
  have hb1 : ¬ ((r.off : Int) < (n : Int)) := by omega
  have hb2 : ¬ ((r.orig.length : Int) < (r.off : Int)) := by omega
  have hb3 : (0 : Int) ≤ (n : Int) := by omega
  have hb4 : (n : Int) ≤ (r.off : Int) := by omega
  have hb5 : (r.off : Int) ≤ (r.orig.length : Int) := by omega
  go_wp2
  have A4 := (A3.alloc (.cells #[.string (bs k)] 9)).alloc (.cells #[.int .i64 o3] 3)
  obtain ⟨Q1, Q3⟩ := boxes2 w3 9 3 (.string (bs k)) (.int .i64 (o3 : Int))
  have hq1 : w3.heap.size < ((w3.alloc (.cells #[.string (bs k)] 9)).alloc (.cells #[.int .i64 o3] 3)).heap.size := by simp; omega
  generalize hW4 : (w3.alloc (.cells #[.string (bs k)] 9)).alloc (.cells #[.int .i64 o3] 3) = w4 at A4 Q1 Q3 hq1 ⊢
  obtain ⟨q, hq⟩ : ∃ q, q = w3.heap.size := ⟨_, rfl⟩
  rw [← hq] at Q1 Q3 hbx hlt3 hq1 ⊢
  clear cB0 c0 c1 f1 f2 c2 A3 hW4 hq
  have cB0 := A4.box B0 (by decide)
  have c0 := A4.c0
  have c1 := A4.c1
  have f1 := A4.fz 1
  have f2 := A4.fz 2
  have far1 : ∀ (w' : World) (v : Value), (w'.setCell ⟨b, 1, none⟩ v).cell? ⟨w.heap.size, 0, none⟩ = w'.cell? ⟨w.heap.size, 0, none⟩ := fun w' v => World.cell?_setCell_other _ _ _ _ (by intro e; have := congrArg Addr.block e; simp at this; omega)
  have far2 : ∀ (w' : World) (v : Value), (w'.setCell ⟨b, 1, none⟩ v).cell? ⟨b, 0, none⟩ = w'.cell? ⟨b, 0, none⟩ := fun w' v => World.cell?_setCell_other _ _ _ _ (by simp)
  have far3 : ∀ (w' : World) (v : Value), (w'.setCell ⟨b, 1, none⟩ v).cell? ⟨b, 2, none⟩ = w'.cell? ⟨b, 2, none⟩ := fun w' v => World.cell?_setCell_other _ _ _ _ (by simp)
  have c2 : ∃ o : Nat, w4.cell? ⟨b, 2, none⟩ = some (.int .i64 o) := by
    obtain ⟨o, l, a1, _, ⟨ad, buf, a3⟩, _⟩ := A4
    exact ⟨o, a3.c2⟩
  obtain ⟨o4, c2⟩ := c2
  go_region_held3 (fun w' => w'.cell? ⟨w.heap.size, 0, none⟩ = some (.pointer (some ⟨b, 0, none⟩)) ∧ w'.cell? ⟨b, 0, none⟩ = some (.string (bs r.orig))) (go_keep) (fail)
  go_wp2_with fail
  obtain ⟨o, l, e1, _, ⟨ad, buf, hv⟩, hk⟩ := A4
  have hg := HG.out
  have hpl : piece.length ≤ r.off - n := by rw [← HP.out, List.length_take]; omega
  have V1 := hv.setStr piece (by show o + piece.length ≤ _; omega)
  have V2 := V1.setOff n rfl (by show n + piece.length ≤ _; omega)
  have V5 := V2.drew
  have KA := Kept.refl B w4
  have K5 : Kept B w4 ((w4.setCell ⟨b, 1, none⟩ (.string (bs piece))).setCell ⟨b, 2, none⟩ (.int .i64 n)).drew := (V1.keeps (hv.keeps KA 1 _) 2 _).drew
  have HK := Lib.hid hk
  have HSZ := Lib.hid hpl
  have hol : r.out.length + m ≤ 1000000000 := HO.out
  clear hv V1 V2 hk cB0 c0 c1 f1 f2 far1 far2 far3 c2 KA
  refine (h B b _ _ V5.rst hsk rfl rfl (fun _ => ?_)).mono ?_
  · show (r.to k o [] l).out.length + m ≤ _
    have := RS.to_len r k o l []
    simp at this
    omega
  rintro e w6 ⟨⟨s, off, rfl⟩, K6, r6, R6⟩
  have K56 := K5.trans K6
  have q1 := (Q1.kept K56 (by decide)).cell
  have q3 := (Q3.kept K56 (by decide)).cell
  have q2 := ((B0.kept HK.out (by decide)).kept K56 (by decide)).cell
  obtain ⟨ad6, buf6, v6⟩ := R6
  have d1 := v6.c1
  have d2 := v6.c2
  have g1 := v6.fz 1
  have g2 := v6.fz 2
  have kd6 := v6.kind
  have hB6 := v6.hB
  have K8 := Lib.hid ((((Kept.refl B w).alloc _).trans HK.out).trans K56)
  have K7 : Kept B w ((w6.setCell ⟨b, 1, none⟩ (.string (bs k))).setCell ⟨b, 2, none⟩ (.int .i64 (o3 : Int))) := by
    have s1 := v6.keeps K8.out 1 (.string (bs k))
    have kd7 : kindOf (w6.setCell ⟨b, 1, none⟩ (.string (bs k))).heap[b]? = some tR := by rw [setCell_heap v6.heap]; rfl
    exact s1.setCell (p := ⟨b, 2, none⟩) (.inr ⟨hB6, kd7⟩) _
  have K9 := Lib.hid K7
  clear V5 K5 K6 K56 v6 h K7 kd6
  go_wp2
  refine leaves_cons (f := 112) (args := #[.pointer (some ⟨q, 0, none⟩), .pointer (some ⟨w.heap.size, 0, none⟩), .pointer (some ⟨q + 1, 0, none⟩)]) (by simp) (by simp [go_sem]) ?_
  refine (back_ends ⟨q, 0, none⟩ ⟨w.heap.size, 0, none⟩ ⟨q + 1, 0, none⟩ b (bs k) o3 _ _ _ w6 q1 q2 q3 d1 d2 g1 g2 (by simp; omega) (by simp; omega)).mono ?_
  rintro e u' w'' ⟨rfl, rfl, rfl⟩
  exact ⟨⟨s, off, rfl⟩, K9.out⟩


set_option maxHeartbeats 8000000 in
set_option maxRecDepth 100000 in
theorem type_B_bad (og : List UInt8) (lb n : Nat) (k : List UInt8) (hnb : n ≤ 1000000000) (hbig : og.length ≤ 400000000) (hp : ∀ off, off + (66 :: (b62 n ++ k)).length = og.length → off ≤ n) : RefusesO og 86 #[] lb false (66 :: (b62 n ++ k)) 0 := by
  intro B b r w hr hsk hlb hi hg ho
  have hmf : ∀ (fn : Fn) (first cap : Array Value) (w : World), (Instr.makeFunc fn first cap).run Tryz.prog w = .ok (.func fn first cap) w := fun _ _ _ _ => rfl
  have c1 : w.cell? ⟨b, 1, none⟩ = some (.string (bs r.str)) := by obtain ⟨ad, buf, h'⟩ := hr; exact h'.c1
  rw [hi] at c1
  have hln := hr.len
  rw [hi] at hln
  simp only [List.length_cons] at hln
  have hn := hp r.off hg.2
  have HB := Lib.hid (backref_bad hr hsk n k hi hn hnb (by rw [hi, hg.1]; exact hg.2) (by rw [hg.1]; exact hbig))
  clear hi hsk hlb hg ho hr hp hn
  go_enter Tryz.func86, Tryz.ntmps86
  go_wp2_with fail
  refine HB.out.mono ?_
  rintro e w9 ⟨⟨s, off, rfl⟩, kk⟩
  go_wp2
  exact ⟨rfl, ⟨_, _, rfl⟩, kk⟩

set_option maxHeartbeats 8000000 in
set_option maxRecDepth 100000 in
theorem type_B_dies (og : List UInt8) (lb n m : Nat) (k piece : List UInt8) (hbig : og.length ≤ 400000000) (hp : ∀ off, off + (66 :: (b62 n ++ k)).length = og.length → n < off ∧ (og.drop n).take (off - n) = piece)
    (h : RefusesR 86 #[] lb false piece m) : RefusesO og 86 #[] lb false (66 :: (b62 n ++ k)) m := by
  intro B b r w hr hsk hlb hi hg ho
  have hmf : ∀ (fn : Fn) (first cap : Array Value) (w : World), (Instr.makeFunc fn first cap).run Tryz.prog w = .ok (.func fn first cap) w := fun _ _ _ _ => rfl
  have c1 : w.cell? ⟨b, 1, none⟩ = some (.string (bs r.str)) := by obtain ⟨ad, buf, h'⟩ := hr; exact h'.c1
  rw [hi] at c1
  have hln := hr.len
  rw [hi] at hln
  simp only [List.length_cons] at hln
  obtain ⟨hn, hpc⟩ := hp r.off hg.2
  have HB := Lib.hid (backref_dies hr hsk n k piece m hi hn (by rw [hi, hg.1]; exact hg.2) (by rw [hg.1]; exact hbig) (by rw [hg.1]; exact hpc) (by rw [hlb]; exact h) (ho hsk))
  clear hi hsk hlb hg ho hr hp hn hpc h
  go_enter Tryz.func86, Tryz.ntmps86
  go_wp2_with fail
  refine HB.out.mono ?_
  rintro e w9 ⟨⟨s, off, rfl⟩, kk⟩
  go_wp2
  exact ⟨rfl, ⟨_, _, rfl⟩, kk⟩

set_option maxHeartbeats 8000000 in
set_option maxRecDepth 100000 in
theorem genericArg_diesO (og : List UInt8) (lb : Nat) (sk : Bool) (c : UInt8) (inp : List UInt8) (n : Nat) (h : RefusesO og 86 #[] lb sk (c :: inp) n) (hL : ((c.toNat : Int) == 76) = false) (hK : ((c.toNat : Int) == 75) = false) :
    RefusesO og 111 #[] lb sk (c :: inp) n := by
  intro B b r w hr hsk hlb hi hg ho
  have HG : Hid (r.orig = og ∧ r.off + r.str.length = og.length) := Lib.hid (by rw [hi]; exact hg)
  clear hg
  have c1 : w.cell? ⟨b, 1, none⟩ = some (.string (bs r.str)) := by obtain ⟨ad, buf, h'⟩ := hr; exact h'.c1
  rw [hi] at c1
  have HI := Lib.hid hi
  have HSK := Lib.hid hsk
  have HLB := Lib.hid hlb
  have A := At.start hr
  rw [hi] at A
  have HO := Lib.hid ho
  clear hi hsk hlb ho
  go_enter Tryz.func111, Tryz.ntmps111
  go_wp2_with fail
  refine (A.refuseO h HSK.out HLB.out HG.out (fun e => by simpa using HO.out e)).mono ?_
  rintro e w9 ⟨⟨s, off, rfl⟩, kk⟩
  go_wp2
  exact ⟨rfl, ⟨_, _, rfl⟩, kk⟩

set_option maxHeartbeats 8000000 in
set_option maxRecDepth 100000 in
theorem genericArgs_diesO (og : List UInt8) (lb : Nat) (sk : Bool) (c d : UInt8) (l m t : List UInt8) (n : Nat) (hc : c.toNat ≠ 69) (hd : d.toNat ≠ 69) (h1 : Says 111 #[] lb sk (c :: l) (d :: m) t T0) (h : RefusesO og 111 #[] lb sk (d :: m) n) : RefusesO og 88 #[] lb sk (c :: l) (t.length + (n + 2)) := by
  intro B b r w hr hsk hlb hi hg ho
  have HG : Hid (r.orig = og ∧ r.off + r.str.length = og.length) := Lib.hid (by rw [hi]; exact hg)
  clear hg
  have c8 : w.cell? ⟨b, 8, none⟩ = some (.bool false) := by obtain ⟨ad, buf, h'⟩ := hr; exact h'.c8
  have hlt := hr.lt
  have A := At.start (hr.alloc (.cells #[.pointer (some ⟨b, 0, none⟩)] 82))
  have B0 := Box.new w 82 (.pointer (some ⟨b, 0, none⟩))
  rw [hi] at A
  have HSK := Lib.hid hsk
  have HLB := Lib.hid hlb
  have HO := Lib.hid ho
  have HA := Lib.hid (A.mono (G' := T0) fun _ _ => trivial)
  have HB := Lib.hid B0
  have hc' : ((c.toNat : Int) != 69) = true := by simp; omega
  have hd' : ((d.toNat : Int) != 69) = true := by simp; omega
  clear hi hsk hlb ho A B0 hc hd
  go_enter Tryz.func88, Tryz.ntmps88
  go_wp2_with fail
  go_loopg [3] 2 (fun k f wr => (k = 2 ∧ f = .bool true ∧ At B b r (w.alloc (.cells #[.pointer (some ⟨b, 0, none⟩)] 82)) (c :: l) [] T0 wr) ∨ (k = 1 ∧ f = .bool false ∧ At B b r (w.alloc (.cells #[.pointer (some ⟨b, 0, none⟩)] 82)) (d :: m) t T0 wr))
  case atStart => exact .inl ⟨rfl, rfl, HA.out⟩
  case round =>
    clear c8 hlt
    rcases hrel with ⟨rfl, rfl, A⟩ | ⟨rfl, rfl, A⟩
    · have cB0 := A.box HB.out (by decide)
      have Ac1 := A.c1
      have Aln := A.len.2
      simp only [List.length_cons] at Aln
      go_wp2_with fail
      refine (A.says h1 HSK.out HLB.out (fun e => by have := HO.out e; simp; omega)).mono ?_
      rintro e w1 ⟨rfl, A'⟩
      go_wp2_with fail
      go_roundg 1
      case measure => simp
      case rel => exact .inr ⟨rfl, rfl, A'.to rfl (by simp)⟩
    · have cB0 := A.box HB.out (by decide)
      have Ac1 := A.c1
      have Aln := A.len.2
      simp only [List.length_cons] at Aln
      go_wp2_with fail
      refine (A.ws [44, 32] (by simp) (fun e => by have := HO.out e; simp; omega)).mono ?_
      rintro e w1 ⟨rfl, A'⟩
      clear cB0 Ac1
      have cB0 := A'.box HB.out (by decide)
      go_wp2_with fail
      refine (A'.refuseO h HSK.out HLB.out HG.out (fun e => by have := HO.out e; simp; omega)).mono ?_
      rintro e w9 ⟨⟨s, off, rfl⟩, kk⟩
      go_wp2
      exact ⟨rfl, ⟨_, _, rfl⟩, ((Kept.refl B w).alloc _).trans kk⟩

set_option maxHeartbeats 8000000 in
set_option maxRecDepth 100000 in
theorem path_I_diesO (og : List UInt8) (lb : Nat) (sk : Bool) (inp k1 t1 txt : List UInt8) (n : Nat) (G1 : Nat → Prop) (h1 : Says 74 #[.bool true] lb sk inp k1 t1 G1) (h2 : RefusesO og 88 #[] lb sk k1 n)
    (htxt : txt = t1 ++ [58, 58, 60]) : RefusesO og 74 #[.bool true] lb sk (73 :: inp) (txt.length + n) := by
  intro B b r w hr hsk hlb hi hg ho
  have HG : Hid (r.orig = og ∧ r.off + r.str.length = og.length) := Lib.hid (by rw [hi]; exact hg)
  clear hg
  have c1 : w.cell? ⟨b, 1, none⟩ = some (.string (bs r.str)) := by obtain ⟨ad, buf, h'⟩ := hr; exact h'.c1
  rw [hi] at c1
  have hlt := hr.lt
  have hln := hr.len
  rw [hi] at hln
  simp only [List.length_cons] at hln
  have ho' := ho
  rw [htxt] at ho'
  have HO := Lib.hid ho'
  clear ho ho'
  have HI := Lib.hid hi
  have HSK := Lib.hid hsk
  have HLB := Lib.hid hlb
  have HT := Lib.hid htxt
  clear hi hsk hlb htxt
  have A := At.start ((hr.alloc (.cells #[.pointer (some ⟨b, 0, none⟩)] 82)).alloc (.cells #[.bool true] 4))
  obtain ⟨B0, B1⟩ := boxes2 w 82 4 (.pointer (some ⟨b, 0, none⟩)) (.bool true)
  rw [HI.out] at A
  go_enter Tryz.func74, Tryz.ntmps74
  go_wp2_with fail
  refine (A.adv 73).mono ?_
  rintro e w1 ⟨rfl, A'⟩
  clear c1 hlt
  clear A; have A := A'; clear A'
  have cB0 := A.box B0 (by decide)
  have cB1 := A.box B1 (by decide)
  go_wp2_with fail
  refine (A.says h1 HSK.out HLB.out (fun hs0 => by have ho' := HO.out hs0; simp at ho' ⊢; omega)).mono ?_
  rintro e w2 ⟨rfl, A'⟩
  clear cB0 cB1
  clear A; have A := A'; clear A'
  have cB0 := A.box B0 (by decide)
  have cB1 := A.box B1 (by decide)
  go_wp2_with fail
  refine (A.ws [58, 58] (by simp) (fun hs0 => by have ho' := HO.out hs0; simp at ho' ⊢; omega)).mono ?_
  rintro e w3 ⟨rfl, A'⟩
  clear cB0 cB1
  clear A; have A := A'; clear A'
  have cB0 := A.box B0 (by decide)
  go_wp2_with fail
  refine (A.wb 60 60 rfl (fun hs0 => by have ho' := HO.out hs0; simp at ho' ⊢; omega)).mono ?_
  rintro e w4 ⟨rfl, A'⟩
  clear cB0
  clear A; have A := A'; clear A'
  have cB0 := A.box B0 (by decide)
  go_wp2_with fail
  refine (A.refuseO h2 HSK.out HLB.out HG.out (fun hs0 => by have ho' := HO.out hs0; simp at ho' ⊢; omega)).mono ?_
  rintro e w9 ⟨⟨s, off, rfl⟩, kk⟩
  go_wp2
  exact ⟨rfl, ⟨_, _, rfl⟩, (((Kept.refl B w).alloc _).alloc _).trans kk⟩

set_option maxHeartbeats 8000000 in
set_option maxRecDepth 100000 in
theorem symbol_diesO (og : List UInt8) (lb : Nat) (sk : Bool) (c : UInt8) (inp : List UInt8) (n : Nat) (hp : RefusesO og 74 #[.bool true] lb sk (c :: inp) n) (hc : c.toNat < 48 ∨ 57 < c.toNat) :
    RefusesO og 56 #[] lb sk (c :: inp) n := by
  intro B b r w hr hsk hlb hi hg ho
  have HG : Hid (r.orig = og ∧ r.off + r.str.length = og.length) := Lib.hid (by rw [hi]; exact hg)
  clear hg
  have c1 : w.cell? ⟨b, 1, none⟩ = some (.string (bs r.str)) := by obtain ⟨ad, buf, h'⟩ := hr; exact h'.c1
  rw [hi] at c1
  have HI := Lib.hid hi
  have HSK := Lib.hid hsk
  have HLB := Lib.hid hlb
  have HC := Lib.hid hc
  have A := At.start hr
  rw [hi] at A
  have HO := Lib.hid ho
  clear hi hsk hlb hc ho
  go_enter Tryz.func56, Tryz.ntmps56
  go_wp2_with (first
    | (go_at_call 73; refine (isDigit_no c.toNat _ HC.out).mono ?_; rintro e w' ⟨rfl, rfl⟩)
    | (go_at_call 74; refine (A.refuseO hp HSK.out HLB.out HG.out (fun e => by simpa using HO.out e)).mono ?_))
  rintro e w9 ⟨⟨s, off, rfl⟩, kk⟩
  go_wp2
  exact ⟨rfl, ⟨_, _, rfl⟩, kk⟩

set_option maxHeartbeats 8000000 in
set_option maxRecDepth 100000 in
theorem toString_diesO (c : UInt8) (inp : List UInt8) (n : Nat) (hp : RefusesO (c :: inp) 56 #[] 0 false (c :: inp) n)
    (hdot : ∀ x ∈ 95 :: 82 :: c :: inp, x ≠ 46) (hlen : inp.length ≤ 100000000) (hn : n ≤ 1000000000) (B : Nat) (w : World) (hT : Tabs B w) (hB : B ≤ w.heap.size) :
    Calls Tryz.prog 39 #[.string (bs (95 :: 82 :: c :: inp)), .slice none 0 0] w fun e w' => (∃ (s : ByteArray) (off : Int), e = .returned (.tuple #[.string ⟨#[]⟩, .iface tDE (.agg #[.string s, .int .i64 off])])) ∧ Below w.heap.size w w' := by
  have hmf : ∀ (fn : Fn) (first cap : Array Value) (w : World), (Instr.makeFunc fn first cap).run Tryz.prog w = .ok (.func fn first cap) w := fun _ _ _ _ => rfl
  have HX := Lib.hid (fun w => index_none (95 :: 82 :: c :: inp) 46 hdot (by simp; omega) w)
  have HP : Hid (∀ w, Calls Tryz.prog 51 #[.string (bs (95 :: 82 :: c :: inp)), .string (bs [95, 82])] w fun e w' => e = .returned (.bool true) ∧ w' = w) := by
    intro w
    refine (Tryz.strings_HasPrefix (bs (95 :: 82 :: c :: inp)) (bs [95, 82]) w).mono ?_
    rintro e w' ⟨rfl, rfl⟩
    exact ⟨by simp [Lib.hasPrefix], rfl⟩
  have b1 : Below w.heap.size w ((w.alloc (.cells #[.string ⟨#[]⟩] 9)).alloc (.cells #[.nilIface] 60)) := ((Below.refl _ _).alloc (Nat.le_refl _) _).alloc (by simp) _
  have F := Rst.fresh (hT.same fun k hk => (b1.mono hB).block k hk) (by simp; omega : B ≤ ((w.alloc (.cells #[.string ⟨#[]⟩] 9)).alloc (.cells #[.nilIface] 60)).heap.size) (c :: inp) (by simp; omega)
  have b2 := Lib.hid (b1.alloc (by simp; omega) (.cells ((R0 (c :: inp)).cs (.pointer none) (.slice none 0 0)) tR))
  have e1 : ((w.alloc (.cells #[.string ⟨#[]⟩] 9)).alloc (.cells #[.nilIface] 60)).heap.size = w.heap.size + 1 + 1 := by simp
  rw [e1] at F
  have A := Lib.hid F
  have HS := Lib.hid hp
  have TL := Lib.hid hn
  have hex : (bs (95 :: 82 :: c :: inp)).extract 2 (inp.length + 1 + 1 + 1) = bs (c :: inp) := by rw [bs_extract]; congr 1; simp
  clear hp hdot hT hB b1 e1 F hn
  go_enter_defers Tryz.func39, Tryz.ntmps39
  go_wp2_with (first
    | (go_at_call 51; refine (HP.out _).mono ?_; rintro e w' ⟨rfl, rfl⟩)
    | (go_at_call 53; refine (HX.out _).mono ?_; rintro e w' ⟨rfl, rfl⟩)
    | (go_at_call 56; fail))
  go_loop [10, 38] (fun _ i => i = .int .i64 0) (fun _ _ => 0)
  case atStart => rfl
  case round =>
    subst hrel
    go_wp2_with (go_at_call 56; refine (HS.out _ _ _ _ A.out rfl rfl rfl ⟨rfl, by simp [R0]⟩ (fun _ => by simpa [R0] using TL.out)).mono ?_)
    rintro e w1 ⟨s, off, rfl⟩ K
    have b3 := Lib.hid (b2.out.trans ((K.below (by simp)).mono (by omega)))
    have hb0 : w1.heap[w.heap.size]? = some (.cells #[.string ⟨#[]⟩] 9 (0, 0)) := by
      rw [K.block _ (by simp <;> omega) (.inl (by omega)), Below.heap_alloc _ _ _ (by simp <;> omega), Below.heap_alloc _ _ _ (by simp)]
      exact heap_alloc_new w _
    have hb1 : w1.heap[w.heap.size + 1]? = some (.cells #[.nilIface] 60 (0, 0)) := by
      rw [K.block _ (by simp) (.inl (by omega)), Below.heap_alloc _ _ _ (by simp)]
      have := heap_alloc_new (w.alloc (.cells #[.string ⟨#[]⟩] 9)) (.cells #[.nilIface] 60)
      simpa using this
    have HC := Lib.hid (top_catch w.heap.size s off [] w1 hb0 hb1)
    clear hb0 hb1 K A b2
    go_wp2
    refine leaves_cons (f := 52) (args := #[.pointer (some ⟨w.heap.size, 0, none⟩), .pointer (some ⟨w.heap.size + 1, 0, none⟩)]) (by simp) (by simp [go_sem]) ?_
    refine HC.out.mono ?_
    rintro e u' w2 ⟨rfl, rfl, d0, d1, b4⟩
    have E0 : w2.cell? ⟨w.heap.size, 0, none⟩ = some (.string ⟨#[]⟩) := by rw [cellAt d0]; rfl
    have E1 : w2.cell? ⟨w.heap.size + 1, 0, none⟩ = some (.iface tDE (.agg #[.string s, .int .i64 off])) := by rw [cellAt d1]; rfl
    have B5 := Lib.hid (b3.out.trans b4)
    clear d0 d1 b4
    simp [Leaves, settle, results, Tryz.results39, go_sem, E0, E1]
    exact B5.out
end Go.Proofs.YtidokamjbglkbaaGreatDoor

/- References to themselves, to what stands behind, to what has not ended: refused. -/
namespace Go.Proofs.YtidokamjbglkbaaGreatDoor
open Go.RowKit

theorem refused_ofO (l : List UInt8) (n : Nat) (h : RefusesO (73 :: 67 :: 49 :: 109 :: l) 74 #[.bool true] 0 false (73 :: 67 :: 49 :: 109 :: l) n) (h46 : ∀ x ∈ l, x ≠ 46) (hl : l.length ≤ 10000000) (hn : n ≤ 1000000000) : RefusedAs (95 :: 82 :: 73 :: 67 :: 49 :: 109 :: l) := by
  intro B w hT hB
  refine toString_diesO 73 (67 :: 49 :: 109 :: l) n (symbol_diesO _ 0 false 73 _ n h (by decide)) ?_ (by simp; omega) hn B w hT hB
  intro x hx
  simp only [List.mem_cons] at hx
  rcases hx with rfl | rfl | rfl | rfl | rfl | rfl | hx
  all_goals first
    | decide
    | exact h46 x hx
theorem b62_46 (n : Nat) : ∀ x ∈ b62 n, x ≠ 46 := fun x hx e => b62_no46 n x hx (by rw [e]; rfl)
theorem path_mf (k : List UInt8) : Says 74 #[.bool false] 0 false (67 :: 49 :: 109 :: k) k [109] NS :=
  path_C false 0 false (49 :: 109 :: k) k [109] [109] 0 (names_one 109 (by decide) k) (by simp) (by decide) rfl
/-- A type, and behind it a reference that is refused. -/
theorem refused_ref {t : RT} (hf : FitT t) (n m : Nat) (hnb : n ≤ 1000000000) (hm : m ≤ 1000000)
    (h : RefusesO (73 :: 67 :: 49 :: 109 :: (pieceOf t ++ (66 :: (b62 n ++ [69])))) 86 #[] 0 false (66 :: (b62 n ++ [69])) m) : RefusedAs (95 :: 82 :: 73 :: 67 :: 49 :: 109 :: (pieceOf t ++ (66 :: (b62 n ++ [69])))) := by
  have hl := hf.len
  have hln := hf.tlen
  have hb := b62_len n (by omega)
  obtain ⟨c, l, e, hd⟩ := hf.head
  have h1 := hf.arg (66 :: (b62 n ++ [69]))
  have h2 := genericArg_diesO _ 0 false 66 (b62 n ++ [69]) m h (by decide) (by decide)
  have h3 : RefusesO (73 :: 67 :: 49 :: 109 :: (pieceOf t ++ (66 :: (b62 n ++ [69])))) 88 #[] 0 false (pieceOf t ++ (66 :: (b62 n ++ [69]))) ((tell t).length + (m + 2)) := by
    have e1 : pieceOf t ++ (66 :: (b62 n ++ [69])) = c :: (l ++ (66 :: (b62 n ++ [69]))) := by rw [e]; rfl
    rw [e1] at h1 h2 ⊢
    exact genericArgs_diesO _ 0 false c 66 _ _ _ m hd.ne69 (by decide) h1 h2
  refine refused_ofO _ _ (path_I_diesO _ 0 false (67 :: 49 :: 109 :: (pieceOf t ++ (66 :: (b62 n ++ [69])))) _ [109] _ _ NS (path_m 0 false _) h3 rfl) ?_ (by simp; omega) (by simp; omega)
  intro x hx
  simp only [List.mem_cons, List.mem_append, List.not_mem_nil, or_false] at hx
  rcases hx with hx | rfl | hx | rfl
  · exact hf.no46 x hx
  · decide
  · exact b62_46 n x hx
  · decide
/-- A reference to itself, or to what stands behind it. -/
theorem self_behind {t : RT} (hf : FitT t) (n : Nat) (hn : 4 + (pieceOf t).length ≤ n) (hn2 : n ≤ 1000000) : RefusedAs (95 :: 82 :: 73 :: 67 :: 49 :: 109 :: (pieceOf t ++ (66 :: (b62 n ++ [69])))) := by
  have hl := hf.len
  have hb := b62_len n (by omega)
  refine refused_ref hf n 0 (by omega) (by omega) (type_B_bad _ 0 n [69] (by omega) (by simp; omega) ?_)
  intro off ho
  simp at ho
  omega
/-- A reference to what has not ended: to the beginning. -/
theorem self_begin {t : RT} (hf : FitT t) : RefusedAs (95 :: 82 :: 73 :: 67 :: 49 :: 109 :: (pieceOf t ++ [66, 95, 69])) := by
  have hl := hf.len
  have hln := hf.tlen
  obtain ⟨c, l, e, hd⟩ := hf.head
  have e0 : b62 0 = [95] := by decide +kernel
  have hr : RunX 111 0 false (pieceOf t) [tell t] := by
    have h1 := hf.arg []
    rw [List.append_nil] at h1
    rw [e] at h1 ⊢
    exact RunX.cons c l [] (tell t) [] hd.ne69 h1 RunX.nil
  have h1 := type_I_dies 0 false (67 :: 49 :: 109 :: pieceOf t) _ (path_If_end 0 false (67 :: 49 :: 109 :: pieceOf t) (pieceOf t) [109] (tell t) _ NS T0 (path_mf (pieceOf t)) (genericArgs_end 0 false (pieceOf t) (tell t) [tell t] hr (by simp [joined, tailText])) rfl)
  have h2 := type_B_dies (73 :: 67 :: 49 :: 109 :: (pieceOf t ++ (66 :: (b62 0 ++ [69])))) 0 0 _ [69] (73 :: 67 :: 49 :: 109 :: pieceOf t) (by rw [e0]; simp; omega) ?_ h1
  · have := refused_ref hf 0 _ (by omega) (by simp; omega) h2
    rw [e0] at this
    exact this
  · intro off ho
    rw [e0] at ho
    simp at ho
    have : off = 4 + (pieceOf t).length := by omega
    subst this
    refine ⟨by omega, ?_⟩
    rw [e0]
    simp [Nat.add_comm 4]
end Go.Proofs.YtidokamjbglkbaaGreatDoor

