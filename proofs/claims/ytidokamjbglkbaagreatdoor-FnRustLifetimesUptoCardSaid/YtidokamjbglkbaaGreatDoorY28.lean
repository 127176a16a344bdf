/- The writer at trait objects. -/
import Derived.Test.YtidokamjbglkbaaGreatDoorY27
import Derived.Test.YtidokamjbglkbaaGreatDoorY26
import Derived.BigRegion
namespace Go.Proofs.YtidokamjbglkbaaGreatDoor
open Go.RowKit

theorem WX.mono {B b : Nat} {cs : Array Value} {w0 w : World} {r : WR} (h : WX B b cs w0 r w) {n : Nat} (hn : r.cnt ≤ n) : WX B b cs w0 { r with cnt := n } w := ⟨h.wr.mono hn, h.kept, h.box⟩
/-- A binding, a trait with bindings: what is asked of them. -/
def BindW (y : RT) : Prop := ∃ c nm n fl t, y = .mk 18 c nm n fl [t] ∧ nameB nm = true ∧ PieceW t ∧ EncL t
def BoundW (x : RT) : Prop := ∃ c nm n fl p bd, x = .mk 17 c nm n fl (p :: bd) ∧ PieceW p ∧ EncL p ∧ ∀ y ∈ bd, BindW y ∧ EncL y
theorem bindW_eq (r : WR) (c : UInt8) (nm : List UInt8) (n : Nat) (fl : Bool) (t : RT) : ((r.put (112 :: idW nm)).tree t).cnt ≤ r.cnt + size (.mk 18 c nm n fl [t]) ∧ { (r.put (112 :: idW nm)).tree t with cnt := r.cnt + size (.mk 18 c nm n fl [t]) } = r.tree (.mk 18 c nm n fl [t]) := by
  rw [WR.put_let r (by unfold letHd; decide)]
  constructor
  · simp [WR.tree, size, sizes]
  · simp [WR.tree, enc, emp, bnds, size, sizes, empL, encs, bndsL, Nat.add_comm 1]
theorem boundW_eq (r : WR) (c : UInt8) (nm : List UInt8) (n : Nat) (fl : Bool) (p : RT) (bd : List RT) : ((r.tree p).trees bd).cnt ≤ r.cnt + size (.mk 17 c nm n fl (p :: bd)) ∧ { (r.tree p).trees bd with cnt := r.cnt + size (.mk 17 c nm n fl (p :: bd)) } = r.tree (.mk 17 c nm n fl (p :: bd)) := by
  have e : (r.tree p).trees bd = r.trees (p :: bd) := rfl
  rw [e, WR.trees_eq]
  constructor
  · simp [size]
  · simp [WR.tree, enc, emp, bnds, size]
theorem trees_take {ts : List RT} {j : Nat} (hj : j < ts.length) (r : WR) : r.trees (ts.take (j + 1)) = (r.trees (ts.take j)).tree ts[j] := encs_take hj r
theorem sizes_at' {ts : List RT} {j : Nat} (hj : j < ts.length) : sizes (ts.take j) + size ts[j] ≤ sizes ts := by
  conv => rhs; rw [← List.take_append_drop j ts, sizes_append, List.drop_eq_getElem_cons hj, sizes]
  omega
theorem roomy.treeAt {r : WR} {ks : List RT} {n : Nat} (h : roomy r (n + 1200 * sizes ks)) (he : ∀ t ∈ ks, EncL t) (j : Nat) (hj : j < ks.length) : roomy (r.trees (ks.take j)) (n + 1200 * size ks[j]) := by
  have := sizes_at' hj
  exact roomy.trees (h.le (by omega)) fun t ht => he t (List.mem_of_mem_take ht)
theorem dyn_HE (r : WR) (c : UInt8) (nm : List UInt8) (n : Nat) (fl : Bool) (bs : List RT) (x : RT) (hx : x.kd = 19) : (({ ((r.put [68]).bind n).trees bs with bound := r.bound }).put [69]).argu x = r.body (.mk 16 c nm n fl (bs ++ [x])) := by
  rw [WR.put_let r (by unfold letHd; decide)]
  have e1 : ∀ (r : WR) (l : List UInt8), r.empty = false → r.put l = { r with out := r.out ++ l } := fun r l h => by rw [WR.put_plain r l h]; cases r; simp at h; subst h; rfl
  have e0 : argMark x.kd = [] := by unfold argMark; rw [if_neg (by omega)]
  have e2 : ∀ lb off, bnds idW off lb x = [] := by
    intro lb off
    cases x with | mk kd c nm n fl ks => have : kd = 19 := hx; subst this; simp [bnds]
  unfold WR.bind
  rw [e1 _ (binder n) rfl]
  rw [WR.trees_eq, WR.put_let _ (l := []) (show letHd 69 by unfold letHd; decide)]
  simp [WR.body, WR.argu, enc, emp, bnds, size, sizes, sizes_append, encsE_snoc, bndsE_snoc, empL_snoc, e0, e2, Nat.add_assoc, Nat.add_comm 1]

set_option maxHeartbeats 8000000 in
set_option maxRecDepth 100000 in
theorem wother_dyn (M B b : Nat) (r : WR) (w : World) (c : UInt8) (nm : List UInt8) (n : Nat) (fl : Bool) (a : Option Addr) (m cap : Nat) (V : Nat → Array Value) (ps : List RT) (x : RT) (hn : n ≤ 20) (hc : m ≤ cap) (h : Wr B b r w) (hV : KidsIn B w a m V) (hT : ∀ i (h : i < (ps ++ [x]).length), TreeAt M B w (V i) (ps ++ [x])[i])
    (hk : (ps ++ [x]).length = m) (hm : m ≤ 1000000000) (hps : ∀ y ∈ ps, BoundW y ∧ EncL y) (hA : ArgW x) (hx : x.kd = 19) (hr : roomy r (1200 * (1 + sizes (ps ++ [x])))) :
    Calls Tryz.prog 44 #[.pointer (some ⟨b, 0, none⟩), .agg (rv 16 c nm n fl (.slice a m cap))] w (WrP B b (r.body (.mk 16 c nm n fl (ps ++ [x]))) w) := by
  have hB := h.hB
  obtain ⟨q, hq⟩ : ∃ q, ps.length = q := ⟨_, rfl⟩
  obtain rfl : q + 1 = m := by simp at hk; omega
  obtain ⟨kb, off, kd1, c1, nm1, n1, fl1, ka1, km1, kc1, rfl, K0⟩ := kid_of hk hV hT q (by simp; omega)
  have er : (ps ++ [x])[q]'(by simp; omega) = x := by subst hq; simp
  rw [er] at K0
  have hsz : sizes (ps ++ [x]) = sizes ps + size x := by simp [sizes_append, sizes]
  rw [hsz] at hr
  have hqx : q + 1 ≤ 9223372036854775807 := by omega
  have hqc : q ≤ cap := by omega
  have S0 := Lib.hid (WX.start (rv 16 c nm n fl (.slice (some ⟨kb, off, none⟩) (q + 1 : Nat) cap)) h)
  have r1 : roomy (r.put [68]) (1198 + 1200 * (sizes ps + size x)) := roomy.put 2 (hr.le (by omega)) (by simp)
  have r2 : roomy ((r.put [68]).bind n) (1183 + 1200 * (sizes ps + size x)) := roomy.bind (r1.le (by omega)) hn
  have r3 : roomy (((r.put [68]).bind n).trees ps) (1183 + 1200 * size x) := roomy.trees (r2.le (by omega)) fun y hy => (hps y hy).2
  have r4 : roomy (({ ((r.put [68]).bind n).trees ps with bound := r.bound }).put [69]) (1100 + 1200 * size x) := roomy.put 10 (show roomy { ((r.put [68]).bind n).trees ps with bound := r.bound } _ from r3.le (by omega)) (by simp)
  have D1 := Lib.hid (does_put (B := B) (b := b) (cs := (rv 16 c nm n fl (.slice (some ⟨kb, off, none⟩) (q + 1 : Nat) cap))) (w0 := w) [68] (hr.le (by omega)) (by simp))
  have D2 := Lib.hid (does_bind (B := B) (b := b) (cs := (rv 16 c nm n fl (.slice (some ⟨kb, off, none⟩) (q + 1 : Nat) cap))) (w0 := w) n hn (r1.le (by omega)))
  have DK := Lib.hid (fun j (hj : j < ps.length) => kid_of (ks := ps) hq (kids_init hV (Nat.le_succ q)) (trees_init hT) j hj)
  have HPS := Lib.hid hps
  have HB := Lib.hid hB
  have RJ := Lib.hid (fun j hj => (r2.le (by omega : 1183 + 1200 * sizes ps ≤ _)).treeAt (fun y hy => (hps y hy).2) j hj)
  have hq1 := Lib.hid hq
  have D4 := Lib.hid (does_put (B := B) (b := b) (cs := (rv 16 c nm n fl (.slice (some ⟨kb, off, none⟩) (q + 1 : Nat) cap))) (w0 := w) [69] (r := { ((r.put [68]).bind n).trees ps with bound := r.bound }) (show roomy { ((r.put [68]).bind n).trees ps with bound := r.bound } _ from r3.le (by omega)) (by simp))
  have D5 := Lib.hid (does_arg (b := b) (cs := (rv 16 c nm n fl (.slice (some ⟨kb, off, none⟩) (q + 1 : Nat) cap))) K0 hB hA (r4.le (by omega)))
  have HK := Lib.hid (fun w' r (h : WX B b (rv 16 c nm n fl (.slice (some ⟨kb, off, none⟩) (q + 1 : Nat) cap)) w r w') => K0.wcells hB h)
  have HE := Lib.hid (dyn_HE r c nm n fl ps x hx)
  have hbd : (((r.put [68]).bind n).trees ps).bound = r.bound + n := by rw [WR.trees_eq]; show WR.bound (WR.bind _ _) = _; rw [WR.bind, (WR.put_bound r [68]).1]
  have HLT := Lib.hid h.lt
  have HBD := Lib.hid hbd
  have HLL := Lib.hid (show (((r.put [68]).bind n).trees ps).out.length ≤ 900000000 by unfold roomy at r3; omega)
  have HBB := Lib.hid (show r.bound ≤ 20 * (((r.put [68]).bind n).trees ps).out.length from by
    obtain ⟨_, _, _, _, _, _, h0⟩ := h
    have := h0.bd
    have e1 : r.out.length ≤ (((r.put [68]).bind n).trees ps).out.length := by
      rw [WR.trees_eq, WR.put_let r (by unfold letHd; decide), WR.bind, WR.put_plain _ _ rfl]
      simp only [List.length_append]; omega
    omega)
  clear h hr r1 r2 r3 r4 K0 hsz er hq hc hV hT hk hm hps hA hx hB hbd
  go_enter Tryz.func44, Tryz.ntmps44
  go_wp2_with fail
  refine (D1.out _ S0.out).mono ?_
  rintro e w1 ⟨rfl, h1⟩
  obtain ⟨_, _, _, b3, _, _⟩ := h1.cells
  have S1 := Lib.hid h1
  clear h1
  go_wp2_with fail
  refine (D2.out _ S1.out).mono ?_
  rintro e w2 ⟨rfl, h2⟩
  obtain ⟨_, _, _, _, _, b5⟩ := h2.cells
  have S2 := Lib.hid h2
  clear h2
  go_wp2_with fail
  go_loopg [6, 8, 74, 88] q (fun g _ _ i _ wr => ∃ j : Nat, g = q - j ∧ j ≤ q ∧ i = .int .i64 j ∧ WX B b (rv 16 c nm n fl (.slice (some ⟨kb, off, none⟩) (q + 1 : Nat) cap)) w (((r.put [68]).bind n).trees (ps.take j)) wr)
  case atStart => exact ⟨0, by omega, Nat.zero_le _, rfl, by simpa [WR.trees] using S2.out⟩
  case round =>
    obtain ⟨j, rfl, hj, rfl, hW⟩ := hrel
    rename World => wo
    by_cases hlt : j < q
    · have hjl := Lib.hid (show j < ps.length by have := hq1.out; omega)
      obtain ⟨kb2, off2, kd2, c2, nm2, n2, fl2, ka2, km2, kc2, e2, K2⟩ := DK.out j hjl.out
      obtain ⟨rfl, rfl⟩ : kb = kb2 ∧ off = off2 := by simpa using e2
      obtain ⟨⟨cx, nmx, nx, flx, p, bd, ex, hp, hep, hbw⟩, hex⟩ := HPS.out _ (List.getElem_mem hjl.out)
      have K2 := K2.keep (hW.same HB.out)
      obtain ⟨a3, m3, cap3, V3, ks3, hkv, et, _, hk3, hc3, _, hm3, hV3, hT3⟩ := K2.tr.cut
      have ex' := ex
      rw [et] at ex'
      simp only [RT.mk.injEq] at ex'
      obtain ⟨rfl, rfl, rfl, rfl, rfl, rfl⟩ := ex'
      simp only [Value.slice.injEq] at hkv
      obtain ⟨rfl, rfl, rfl⟩ := hkv
      obtain ⟨kb3, off3, kd3, c3, nm3, n3, fl3, ka3, km3, kc3, rfl, K3⟩ := kid_of hk3 hV3 hT3 0 (by simp)
      change KidW M B p _ _ _ _ _ _ _ _ _ at K3
      have hBr := hW.wr.hB
      obtain ⟨k0, k1, k2, k3, k4, k5⟩ : _ ∧ _ ∧ _ ∧ _ ∧ _ ∧ _ := ⟨K2.k0, K2.k1, K2.k2, K2.k3, K2.k4, K2.k5⟩
      obtain ⟨m4, rfl⟩ : ∃ m4, km2 = m4 + 1 := ⟨km2 - 1, by simp at hk3; omega⟩
      have hb4 := Lib.hid (show bd.length = m4 by simp at hk3; omega)
      have rj := RJ.out j hjl.out
      rw [ex] at rj
      simp only [size, sizes] at rj
      have hmx4 : m4 + 1 ≤ 9223372036854775807 := by have h1 := len_le_sizes bd; have h2 := hb4.out; unfold roomy at rj; omega
      have CT := Lib.hid (trees_take hjl.out ((r.put [68]).bind n))
      rw [ex] at CT
      obtain ⟨RR, hRR⟩ : ∃ RR, RR = ((r.put [68]).bind n).trees (ps.take j) := ⟨_, rfl⟩
      rw [← hRR] at rj hW CT
      have HRR := Lib.hid hRR
      clear hRR
      have rp : roomy (RR.tree p) (1183 + 1200 * sizes bd) := roomy.tree (rj.le (by omega)) hep
      have T0 := Lib.hid (WX.start (rv 17 c2 nm2 n2 fl2 (.slice (some ⟨kb3, off3, none⟩) (m4 + 1 : Nat) kc2)) hW.wr)
      have E1 := Lib.hid (does_kid (b := b) (cs := (rv 17 c2 nm2 n2 fl2 (.slice (some ⟨kb3, off3, none⟩) (m4 + 1 : Nat) kc2))) K3 hBr hp (rj.le (by omega)))
      have HBR := Lib.hid hBr
      have HBW := Lib.hid hbw
      have RI := Lib.hid (fun i hi => rp.treeAt (fun y hy => (hbw y hy).2) i hi)
      have HW := Lib.hid hW
      have BE := Lib.hid (boundW_eq RR c2 nm2 n2 fl2 p bd)
      obtain ⟨l0, l1, l2, l3, l4, l5⟩ := K3.wcells hBr T0.out
      simp only [Nat.zero_mul, Nat.add_zero] at l0 l1 l2 l3 l4 l5
      by_cases hcap : kc2 = 1
      · have hm40 : m4 = 0 := by omega
        subst hcap
        subst hm40
        clear hW hbw hBr rj rp hp hep hex K2 K3 hk3 hV3 hT3 hc3 hm3 ex et e2
        go_wp2_with fail
        refine (E1.out _ T0.out).mono ?_
        rintro e w3 ⟨rfl, h3⟩
        obtain ⟨_, _, _, _, _, d5⟩ := h3.cells
        have T1 := Lib.hid h3
        clear h3
        go_wp2_with fail
        go_loopg [8, 88] 0 (fun g _ i wr => ∃ i' : Nat, g = 0 - i' ∧ i' ≤ 0 ∧ i = .int .i64 i' ∧ WX B b (rv 17 c2 nm2 n2 fl2 (.slice (some ⟨kb3, off3, none⟩) (0 + 1 : Nat) 1)) wo ((RR.tree p).trees (bd.take i')) wr)
        case atStart => exact ⟨0, by omega, Nat.zero_le _, rfl, by simpa [WR.trees] using T1.out⟩
        case round =>
          obtain ⟨i', rfl, hi', rfl, hWi⟩ := hrel
          have him := Lib.hid (show bd.take i' = bd from by rw [show i' = bd.length by have := hb4.out; omega]; exact List.take_length)
          have hWi2 := hWi
          rw [him.out] at hWi2
          have Y := Lib.hid (((HW.out.step hWi2.kept hWi2.wr).mono BE.out.1).cast (BE.out.2.trans (CT.out.symm.trans rfl)))
          clear hWi hWi2
          go_wp2_with fail
          go_roundg (q - (j + 1))
          case measure => omega
          case rel => exact ⟨j + 1, rfl, by omega, by go_num, Y.out⟩
      · have DB := Lib.hid (fun i (hi : i < bd.length) => kid_of (ks := bd) (show bd.length = m4 from hb4.out) (kids_tail hV3 (by omega)) (trees_tail hT3) i hi)
        clear hW hbw hBr rj rp hp hep hex K2 K3 hk3 hV3 hT3 hc3 hm3 ex et e2
        go_wp2_with fail
        refine (E1.out _ T0.out).mono ?_
        rintro e w3 ⟨rfl, h3⟩
        obtain ⟨_, _, _, _, _, d5⟩ := h3.cells
        have T1 := Lib.hid h3
        clear h3
        go_wp2_with fail
        go_loopg [8, 88] m4 (fun g _ i wr => ∃ i' : Nat, g = m4 - i' ∧ i' ≤ m4 ∧ i = .int .i64 i' ∧ WX B b (rv 17 c2 nm2 n2 fl2 (.slice (some ⟨kb3, off3, none⟩) (m4 + 1 : Nat) kc2)) wo ((RR.tree p).trees (bd.take i')) wr)
        case atStart => exact ⟨0, by omega, Nat.zero_le _, rfl, by simpa [WR.trees] using T1.out⟩
        case round =>
          obtain ⟨i', rfl, hi', rfl, hWi⟩ := hrel
          by_cases hlt2 : i' < m4
          · have hil := Lib.hid (show i' < bd.length by have := hb4.out; omega)
            obtain ⟨kb4, off4, kd4, c4, nm4, n4, fl4, ka4, km4, kc4, e4, K4⟩ := DB.out i' hil.out
            obtain ⟨rfl, rfl⟩ : kb3 = kb4 ∧ off3 + 6 = off4 := by simpa using e4
            obtain ⟨⟨cy, nmy, ny, fly, t, ey, hnm5, ht, het⟩, _⟩ := HBW.out _ (List.getElem_mem hil.out)
            have K4 := K4.keep (hWi.same HBR.out)
            obtain ⟨a6, m6, cap6, V6, ks6, hkv6, et6, _, hk6, _, _, _, hV6, hT6⟩ := K4.tr.cut
            have ey' := ey
            rw [et6] at ey'
            simp only [RT.mk.injEq] at ey'
            obtain ⟨rfl, rfl, rfl, rfl, rfl, rfl⟩ := ey'
            simp only [Value.slice.injEq] at hkv6
            obtain ⟨rfl, rfl, rfl⟩ := hkv6
            obtain ⟨kb6, off6, kd6, c6, nm6, n6, fl6, ka6, km6, kc6, rfl, K6⟩ := kid_of hk6 hV6 hT6 0 (by simp)
            change KidW M B t _ _ _ _ _ _ _ _ _ at K6
            obtain rfl : km4 = 1 := by simpa using hk6.symm
            have hBi := hWi.wr.hB
            obtain ⟨k0, k1, k2, k3, k4, k5⟩ : _ ∧ _ ∧ _ ∧ _ ∧ _ ∧ _ := ⟨K4.k0, K4.k1, K4.k2, K4.k3, K4.k4, K4.k5⟩
            have ri := RI.out i' hil.out
            rw [ey] at ri
            simp only [size, sizes] at ri
            have CI := Lib.hid (trees_take hil.out (RR.tree p))
            rw [ey] at CI
            obtain ⟨QQ, hQQ⟩ : ∃ QQ, QQ = (RR.tree p).trees (bd.take i') := ⟨_, rfl⟩
            rw [← hQQ] at ri hWi CI
            clear hQQ
            have li := idW_len' (.inl hnm5)
            have rq : roomy (QQ.put (112 :: idW nm4)) (1100 + 1200 * size t) := roomy.put 1100 (ri.le (by omega)) (by simp; omega)
            have U0 := Lib.hid (WX.start (rv 18 c4 nm4 n4 fl4 (.slice (some ⟨kb6, off6, none⟩) 1 kc4)) hWi.wr)
            have F0 := Lib.hid (fun w' r (h : WX B b (rv 18 c4 nm4 n4 fl4 (.slice (some ⟨kb6, off6, none⟩) 1 kc4)) wr r w') => written_any nm4 hnm5 B w' h.wr.tabs h.wr.hB)
            have F1 := Lib.hid (does_put (B := B) (b := b) (cs := (rv 18 c4 nm4 n4 fl4 (.slice (some ⟨kb6, off6, none⟩) 1 kc4))) (w0 := wr) (112 :: idW nm4) (r := QQ) (ri.le (by omega)) (by simp; omega))
            have F2 := Lib.hid (does_kid (b := b) (cs := (rv 18 c4 nm4 n4 fl4 (.slice (some ⟨kb6, off6, none⟩) 1 kc4))) K6 hBi ht (rq.le (by omega)))
            have HL6 := Lib.hid (fun w' r (h : WX B b (rv 18 c4 nm4 n4 fl4 (.slice (some ⟨kb6, off6, none⟩) 1 kc4)) wr r w') => K6.wcells hBi h)
            have eb := bs_cons 112 (idW nm4)
            have hmx6 : ¬ 9223372036854775807 < (idW nm4).length + 1 := by omega
            have BI := Lib.hid (bindW_eq QQ c4 nm4 n4 fl4 t)
            have HWi := Lib.hid hWi
            clear hWi K4 K6 ri rq li hnm5 ht het hk6 hV6 hT6 ey et6 e4 hBi
            go_wp2_with fail
            refine (F0.out _ _ U0.out).mono ?_
            rintro e w4 ⟨rfl, g4⟩
            have U1 := Lib.hid (U0.out.below g4)
            clear g4
            go_wp2_with fail
            refine (F1.out _ U1.out).mono ?_
            rintro e w5 ⟨rfl, h5⟩
            obtain ⟨_, _, _, _, _, f5⟩ := h5.cells
            obtain ⟨p0, p1, p2, p3, p4, p5⟩ := HL6.out _ _ h5
            simp only [Nat.zero_mul, Nat.add_zero] at p0 p1 p2 p3 p4 p5
            have U2 := Lib.hid h5
            clear h5
            go_wp2_with fail
            refine (F2.out _ U2.out).mono ?_
            rintro e w6 ⟨rfl, h6⟩
            have X6 := Lib.hid (((HWi.out.step h6.kept h6.wr).mono BI.out.1).cast (BI.out.2.trans CI.out.symm))
            clear h6
            go_wp2_with fail
            go_roundg (m4 - (i' + 1))
            case measure => omega
            case rel => exact ⟨i' + 1, rfl, by omega, by go_num, X6.out⟩
          · have him := Lib.hid (show bd.take i' = bd from by rw [show i' = bd.length by have := hb4.out; omega]; exact List.take_length)
            have hWi2 := hWi
            rw [him.out] at hWi2
            have Y := Lib.hid (((HW.out.step hWi2.kept hWi2.wr).mono BE.out.1).cast (BE.out.2.trans (CT.out.symm.trans rfl)))
            clear hWi hWi2
            go_wp2_with fail
            go_roundg (q - (j + 1))
            case measure => omega
            case rel => exact ⟨j + 1, rfl, by omega, by go_num, Y.out⟩
    · have hjm := Lib.hid (show j = q by omega)
      have e3 : ps.take j = ps := by rw [hjm.out, ← hq1.out]; exact List.take_length
      rw [e3] at hW
      obtain ⟨u7, uf, hu⟩ := unbind (k := r.bound) (n := n) hW HLT.out HBD.out HBB.out HLL.out
      obtain ⟨_, _, _, b3, _, _⟩ := hW.cells
      have SU := Lib.hid hu
      clear hW e3 hu
      go_wp2
      go_region
      go_wp2_with fail
      refine (D4.out _ SU.out).mono ?_
      rintro e w7 ⟨rfl, h7⟩
      obtain ⟨_, _, _, _, _, c7⟩ := h7.cells
      obtain ⟨k00, k01, k02, k03, k04, k05⟩ := HK.out _ _ h7
      have S7 := Lib.hid h7
      clear h7
      go_wp2_with fail
      refine (D5.out _ S7.out).mono ?_
      rintro e w8 ⟨rfl, h8⟩
      have S8 := Lib.hid h8
      clear h8
      go_wp2
      go_end0
      exact S8.out.post HE.out
end Go.Proofs.YtidokamjbglkbaaGreatDoor

/- The writer at generic arguments. -/
namespace Go.Proofs.YtidokamjbglkbaaGreatDoor
open Go.RowKit

theorem argus_take {ts : List RT} {j : Nat} (hj : j < ts.length) (r : WR) : r.argus (ts.take (j + 1)) = (r.argus (ts.take j)).argu ts[j] := by
  rw [List.take_succ_eq_append_getElem hj, WR.argus, List.foldl_append]; rfl
theorem sizes_at {ts : List RT} {j : Nat} (hj : j < ts.length) : sizes (ts.take j) + size ts[j] ≤ sizes ts := by
  conv => rhs; rw [← List.take_append_drop j ts, sizes_append, List.drop_eq_getElem_cons hj, sizes]
  omega
theorem roomy.argAt {r : WR} {ks : List RT} (h : roomy r (1200 * sizes ks)) (he : ∀ t ∈ ks, EncL t) (j : Nat) (hj : j < ks.length) : roomy (r.argus (ks.take j)) (1200 * size ks[j]) := by
  have := sizes_at hj
  exact roomy.argus (h.le (by omega)) fun t ht => he t (List.mem_of_mem_take ht)
theorem gen_HE (r : WR) (c : UInt8) (nm : List UInt8) (n : Nat) (fl : Bool) (p : RT) (hp : isPathK p.kd) (gs : List RT) : ((((r.put [73]).tree p).argus gs).put [69]) = r.body (.mk 6 c nm n fl (p :: gs)) := by
  rw [WR.put_let r (by unfold letHd; decide), WR.argus_eq, WR.put_let _ (by unfold letHd; decide)]
  have e0 : argMark p.kd = [] := by
    unfold argMark
    unfold isPathK at hp
    rw [if_neg (by omega)]
  simp [WR.body, WR.tree, enc, emp, bnds, size, sizes, encsA, bndsA, e0, Nat.add_assoc, Nat.add_comm 1]

set_option maxHeartbeats 4000000 in
set_option maxRecDepth 100000 in
theorem wpath_gen (M B b : Nat) (r : WR) (w : World) (c : UInt8) (nm : List UInt8) (n : Nat) (fl : Bool) (a : Option Addr) (m cap : Nat) (V : Nat → Array Value) (p : RT) (gs : List RT) (hp : isPathK p.kd) (hP : PieceW p) (hgs : gs ≠ []) (hc : m ≤ cap ∧ cap ≤ maxLen) (hA : ∀ x ∈ gs, ArgW x) (h : Wr B b r w) (K : KW M B w a m V (p :: gs)) (hr : roomy r (1200 * (1 + sizes (p :: gs)))) :
    Calls Tryz.prog 41 #[.pointer (some ⟨b, 0, none⟩), .agg (rv 6 c nm n fl (.slice a m cap))] w (WrP B b (r.body (.mk 6 c nm n fl (p :: gs))) w) := by
  obtain ⟨kb, off, kd1, c1, nm1, n1, fl1, ka1, km1, kc1, rfl, K0⟩ := K.kid 0 (by simp)
  change KidW M B p _ _ _ _ _ _ _ _ w at K0
  have hlen := K.len
  have hsm := K.small
  simp only [List.length_cons] at hlen
  have hg1 : 1 ≤ gs.length := by cases gs with | nil => exact absurd rfl hgs | cons x xs => simp
  have KT := K.tail
  obtain ⟨m1, rfl⟩ : ∃ m1, m = m1 + 1 := ⟨m - 1, by omega⟩
  rw [show m1 + 1 - 1 = m1 by omega] at KT
  have hc1 : cap ≠ 1 := by omega
  have hmx : m1 + 1 ≤ 9223372036854775807 := by omega
  have S0 := Lib.hid (WX.start (rv 6 c nm n fl (.slice (some ⟨kb, off, none⟩) (m1 + 1) cap)) h)
  simp only [sizes] at hr
  have r1 : roomy (r.put [73]) (1000 + 1200 * (size p + sizes gs)) := roomy.put 200 (hr.le (by omega)) (by simp)
  have r2 : roomy ((r.put [73]).tree p) (1000 + 1200 * sizes gs) := roomy.tree (r1.le (by omega)) (K.el p (by simp))
  have r3 : roomy (((r.put [73]).tree p).argus gs) 1000 := roomy.argus r2 KT.el
  have D1 := Lib.hid (does_put (B := B) (b := b) (cs := (rv 6 c nm n fl (.slice (some ⟨kb, off, none⟩) (m1 + 1 : Nat) cap))) (w0 := w) [73] (hr.le (by omega)) (by simp))
  have D2 := Lib.hid (does_kid (b := b) (cs := (rv 6 c nm n fl (.slice (some ⟨kb, off, none⟩) (m1 + 1 : Nat) cap))) K0 K.hB hP (r1.le (by omega)))
  have D3 := Lib.hid (fun j (hj : j < gs.length) => (KT.kid j hj))
  have D4 := Lib.hid (does_put (B := B) (b := b) (cs := (rv 6 c nm n fl (.slice (some ⟨kb, off, none⟩) (m1 + 1 : Nat) cap))) (w0 := w) [69] (r3.le (by omega)) (by simp))
  have HR := Lib.hid (fun j hj => (r2.le (by omega : 1200 * sizes gs ≤ _)).argAt KT.el j hj)
  have HK := Lib.hid (fun w' r (h : WX B b (rv 6 c nm n fl (.slice (some ⟨kb, off, none⟩) (m1 + 1 : Nat) cap)) w r w') => K0.wcells K.hB h)
  have HB := Lib.hid K.hB
  have HA := Lib.hid hA
  have HE := Lib.hid (gen_HE r c nm n fl p hp gs)
  have hm1 := Lib.hid (show gs.length = m1 by omega)
  clear h hr r1 r2 r3 K K0 KT hA hp hP hlen
  go_enter Tryz.func41, Tryz.ntmps41
  go_wp2_with fail
  refine (D1.out _ S0.out).mono ?_
  rintro e w1 ⟨rfl, h1⟩
  obtain ⟨_, _, _, _, _, b5⟩ := h1.cells
  obtain ⟨k00, k01, k02, k03, k04, k05⟩ := HK.out _ _ h1
  simp only [Nat.zero_mul, Nat.add_zero] at k00 k01 k02 k03 k04 k05
  have S1 := Lib.hid h1
  clear h1
  go_wp2_with fail
  refine (D2.out _ S1.out).mono ?_
  rintro e w2 ⟨rfl, h2⟩
  obtain ⟨_, _, _, _, _, b5⟩ := h2.cells
  have S2 := Lib.hid h2
  clear h2 hc hgs hg1
  go_wp2_with fail
  go_loopg [5, 20] m1 (fun n' _ i wr => ∃ j : Nat, n' = m1 - j ∧ j ≤ m1 ∧ i = .int .i64 j ∧ WX B b (rv 6 c nm n fl (.slice (some ⟨kb, off, none⟩) (m1 + 1 : Nat) cap)) w (((r.put [73]).tree p).argus (gs.take j)) wr)
  case atStart => exact ⟨0, by omega, Nat.zero_le _, rfl, by simpa [WR.argus] using S2.out⟩
  case round =>
    obtain ⟨j, rfl, hj, rfl, hW⟩ := hrel
    by_cases hlt : j < m1
    · obtain ⟨kb2, off2, kd2, c2, nm2, n2, fl2, ka2, km2, kc2, e2, K2⟩ := D3.out j (by have := hm1.out; omega)
      obtain ⟨rfl, rfl⟩ : kb = kb2 ∧ off + 6 = off2 := by simpa using e2
      have hcall := Lib.hid (does_arg (b := b) (cs := (rv 6 c nm n fl (.slice (some ⟨kb, off, none⟩) (m1 + 1 : Nat) cap))) K2 HB.out (HA.out _ (List.getElem_mem (by have := hm1.out; omega : j < gs.length))) (HR.out j (by have := hm1.out; omega)))
      obtain ⟨k0, k1, k2, k3, k4, k5⟩ := K2.wcells HB.out hW
      have SW := Lib.hid (hW.alloc (.cells (rv kd2 c2 nm2 n2 fl2 (.slice ka2 km2 kc2)) tRu))
      clear K2 hW e2
      go_wp2_with fail
      refine (hcall.out _ SW.out).mono ?_
      rintro e w3 ⟨rfl, h3⟩
      have HT := Lib.hid (h3.cast (argus_take (by have := hm1.out; omega) _).symm)
      clear h3 hcall SW
      go_wp2_with fail
      go_roundg (m1 - (j + 1))
      case measure => omega
      case rel => exact ⟨j + 1, rfl, by omega, by go_num, HT.out⟩
    · have hjm := Lib.hid (show j = m1 by omega)
      have e3 : gs.take j = gs := by rw [hjm.out, ← hm1.out]; exact List.take_length
      rw [e3] at hW
      have SW := Lib.hid hW
      clear hW e3
      go_wp2_with fail
      refine (D4.out _ SW.out).mono ?_
      rintro e w3 ⟨rfl, h3⟩
      have SX := Lib.hid h3
      clear h3
      go_wp2
      go_end0
      exact SX.out.post HE.out
end Go.Proofs.YtidokamjbglkbaaGreatDoor

/- The writer at paths: implementations, definitions of traits. -/
namespace Go.Proofs.YtidokamjbglkbaaGreatDoor
open Go.RowKit

set_option maxHeartbeats 4000000 in
set_option maxRecDepth 100000 in
theorem wpath_impl (M B b : Nat) (r : WR) (w : World) (c : UInt8) (nm : List UInt8) (n : Nat) (fl : Bool) (a : Option Addr) (m cap : Nat) (V : Nat → Array Value) (ks : List RT) (hN : n < 4611686018427387904) (hP : ∀ x ∈ ks, PieceW x) (h : Wr B b r w) (K : KW M B w a m V ks) (hr : roomy r (1200 * (1 + sizes ks))) :
    Calls Tryz.prog 41 #[.pointer (some ⟨b, 0, none⟩), .agg (rv 2 c nm n fl (.slice a m cap))] w (WrP B b (r.body (.mk 2 c nm n fl ks)) w) := by
  have S0 := Lib.hid (WX.start (rv 2 c nm n fl (.slice a m cap)) h)
  have HD := Lib.hid (fun w => disamb_text n (by omega) w)
  have LD := dis_len n (by omega)
  have hmx : ¬ 9223372036854775807 < (dis n).length + 1 := by omega
  have eb := bs_cons 77 (dis n)
  have r1 : roomy (r.put (77 :: dis n)) (1200 * sizes ks) := roomy.put 1200 (hr.le (by omega)) (by simp; omega)
  have D1 := Lib.hid (does_put (B := B) (b := b) (cs := (rv 2 c nm n fl (.slice a m cap))) (w0 := w) (77 :: dis n) (hr.le (by omega)) (by simp; omega))
  have D2 := Lib.hid (does_pieces (b := b) (cs := (rv 2 c nm n fl (.slice a m cap))) cap K hP r1)
  have HE : Hid ((r.put (77 :: dis n)).trees ks = r.body (.mk 2 c nm n fl ks)) := Lib.hid (by
    rw [WR.trees_eq, WR.put_let r (by unfold letHd; decide)]
    simp only [WR.body, enc, emp, bnds, size]
    cases ks with
    | nil => simp [empL, Nat.add_comm]
    | cons x xs => simp [Nat.add_comm])
  clear h hr K hP r1 LD
  go_enter Tryz.func41, Tryz.ntmps41
  go_wp2_with fail
  refine (HD.out _).mono ?_
  rintro e w1 ⟨rfl, q1, rfl⟩
  have S1 := Lib.hid ((S0.out).drewN q1)
  go_wp2_with fail
  refine (D1.out _ S1.out).mono ?_
  rintro e w2 ⟨rfl, h2⟩
  obtain ⟨_, _, _, _, _, b5⟩ := h2.cells
  have S2 := Lib.hid h2
  clear h2
  go_wp2_with fail
  refine (D2.out _ S2.out).mono ?_
  rintro e w3 ⟨rfl, h3⟩
  have S3 := Lib.hid h3
  clear h3
  go_wp2
  go_end0
  exact (S3.out).post HE.out

set_option maxHeartbeats 4000000 in
set_option maxRecDepth 100000 in
theorem wpath_timpl (M B b : Nat) (r : WR) (w : World) (c : UInt8) (nm : List UInt8) (n : Nat) (fl : Bool) (a : Option Addr) (m cap : Nat) (V : Nat → Array Value) (ks : List RT) (hN : n < 4611686018427387904) (hP : ∀ x ∈ ks, PieceW x) (h : Wr B b r w) (K : KW M B w a m V ks) (hr : roomy r (1200 * (1 + sizes ks))) :
    Calls Tryz.prog 41 #[.pointer (some ⟨b, 0, none⟩), .agg (rv 3 c nm n fl (.slice a m cap))] w (WrP B b (r.body (.mk 3 c nm n fl ks)) w) := by
  have S0 := Lib.hid (WX.start (rv 3 c nm n fl (.slice a m cap)) h)
  have HD := Lib.hid (fun w => disamb_text n (by omega) w)
  have LD := dis_len n (by omega)
  have hmx : ¬ 9223372036854775807 < (dis n).length + 1 := by omega
  have eb := bs_cons 88 (dis n)
  have r1 : roomy (r.put (88 :: dis n)) (1200 * sizes ks) := roomy.put 1200 (hr.le (by omega)) (by simp; omega)
  have D1 := Lib.hid (does_put (B := B) (b := b) (cs := (rv 3 c nm n fl (.slice a m cap))) (w0 := w) (88 :: dis n) (hr.le (by omega)) (by simp; omega))
  have D2 := Lib.hid (does_pieces (b := b) (cs := (rv 3 c nm n fl (.slice a m cap))) cap K hP r1)
  have HE : Hid ((r.put (88 :: dis n)).trees ks = r.body (.mk 3 c nm n fl ks)) := Lib.hid (by
    rw [WR.trees_eq, WR.put_let r (by unfold letHd; decide)]
    simp only [WR.body, enc, emp, bnds, size]
    cases ks with
    | nil => simp [empL, Nat.add_comm]
    | cons x xs => simp [Nat.add_comm])
  clear h hr K hP r1 LD
  go_enter Tryz.func41, Tryz.ntmps41
  go_wp2_with fail
  refine (HD.out _).mono ?_
  rintro e w1 ⟨rfl, q1, rfl⟩
  have S1 := Lib.hid ((S0.out).drewN q1)
  go_wp2_with fail
  refine (D1.out _ S1.out).mono ?_
  rintro e w2 ⟨rfl, h2⟩
  obtain ⟨_, _, _, _, _, b5⟩ := h2.cells
  have S2 := Lib.hid h2
  clear h2
  go_wp2_with fail
  refine (D2.out _ S2.out).mono ?_
  rintro e w3 ⟨rfl, h3⟩
  have S3 := Lib.hid h3
  clear h3
  go_wp2
  go_end0
  exact (S3.out).post HE.out

set_option maxHeartbeats 4000000 in
set_option maxRecDepth 100000 in
theorem wpath_tdef (M B b : Nat) (r : WR) (w : World) (c : UInt8) (nm : List UInt8) (n : Nat) (fl : Bool) (a : Option Addr) (m cap : Nat) (V : Nat → Array Value) (ks : List RT) (hP : ∀ x ∈ ks, PieceW x) (h : Wr B b r w) (K : KW M B w a m V ks) (hr : roomy r (1200 * (1 + sizes ks))) :
    Calls Tryz.prog 41 #[.pointer (some ⟨b, 0, none⟩), .agg (rv 4 c nm n fl (.slice a m cap))] w (WrP B b (r.body (.mk 4 c nm n fl ks)) w) := by
  have S0 := Lib.hid (WX.start (rv 4 c nm n fl (.slice a m cap)) h)
  have r1 : roomy (r.put [89]) (1200 * sizes ks) := roomy.put 1200 (hr.le (by omega)) (by simp)
  have D1 := Lib.hid (does_put (B := B) (b := b) (cs := (rv 4 c nm n fl (.slice a m cap))) (w0 := w) [89] (hr.le (by omega)) (by simp))
  have D2 := Lib.hid (does_pieces (b := b) (cs := (rv 4 c nm n fl (.slice a m cap))) cap K hP r1)
  have HE : Hid ((r.put [89]).trees ks = r.body (.mk 4 c nm n fl ks)) := Lib.hid (by
    rw [WR.trees_eq, WR.put_let r (by unfold letHd; decide)]
    simp only [WR.body, enc, emp, bnds, size]
    cases ks with
    | nil => simp [empL]
    | cons x xs => simp)
  clear h hr K hP r1
  go_enter Tryz.func41, Tryz.ntmps41
  go_wp2_with fail
  refine (D1.out _ S0.out).mono ?_
  rintro e w1 ⟨rfl, h1⟩
  obtain ⟨_, _, _, _, _, b5⟩ := h1.cells
  have S1 := Lib.hid h1
  clear h1
  go_wp2_with fail
  refine (D2.out _ S1.out).mono ?_
  rintro e w2 ⟨rfl, h2⟩
  have S2 := Lib.hid h2
  clear h2
  go_wp2
  go_end0
  exact (S2.out).post HE.out

end Go.Proofs.YtidokamjbglkbaaGreatDoor

/- The writer at crates, names in paths. -/
namespace Go.Proofs.YtidokamjbglkbaaGreatDoor
open Go.RowKit

set_option maxHeartbeats 4000000 in
set_option maxRecDepth 100000 in
theorem wpath_crate (B b : Nat) (r : WR) (w : World) (c : UInt8) (nm : List UInt8) (n : Nat) (fl : Bool) (ks : Value) (hN : n < 4611686018427387904) (hm : nameB nm = true) (h : Wr B b r w) (hr : roomy r 1200) :
    Calls Tryz.prog 41 #[.pointer (some ⟨b, 0, none⟩), .agg (rv 1 c nm n fl ks)] w (WrP B b (r.body (.mk 1 c nm n fl [])) w) := by
  have S0 := Lib.hid (WX.start (rv 1 c nm n fl ks) h)
  have HD := Lib.hid (fun w => disamb_text n (by omega) w)
  have LD := dis_len n (by omega)
  have hmx : ¬ 9223372036854775807 < (dis n).length + 1 := by omega
  have eb := bs_cons 67 (dis n)
  have r1 : roomy (r.put (67 :: dis n)) 1100 := roomy.put 100 (hr.le (by omega)) (by simp; omega)
  have D1 := Lib.hid (does_put (B := B) (b := b) (cs := (rv 1 c nm n fl ks)) (w0 := w) (67 :: dis n) (hr.le (by omega)) (by simp; omega))
  have D2 := Lib.hid (does_name (B := B) (b := b) (cs := (rv 1 c nm n fl ks)) (w0 := w) nm (.inl hm) (r1.le (by omega)))
  have HE : Hid ((r.put (67 :: dis n)).name nm = r.body (.mk 1 c nm n fl [])) := Lib.hid (by
    have hne := nameB_ne hm
    obtain ⟨c1, l1, e1, _⟩ := idW_head hm
    rw [WR.put_let r (by unfold letHd; decide), WR.name, if_neg hne]
    simp [WR.body, enc, emp, bnds, size, sizes, WR.put, nameText, pt, hne, e1, sepOf])
  clear h hr r1 LD hm
  go_enter Tryz.func41, Tryz.ntmps41
  go_wp2_with fail
  refine (HD.out _).mono ?_
  rintro e w1 ⟨rfl, q1, rfl⟩
  have S1 := Lib.hid ((S0.out).drewN q1)
  go_wp2_with fail
  refine (D1.out _ S1.out).mono ?_
  rintro e w2 ⟨rfl, h2⟩
  obtain ⟨_, _, b2, _, _, _⟩ := h2.cells
  have S2 := Lib.hid h2
  clear h2
  go_wp2_with fail
  refine (D2.out _ S2.out).mono ?_
  rintro e w3 ⟨rfl, h3⟩
  have S3 := Lib.hid h3
  clear h3
  go_wp2
  go_end0
  exact (S3.out).post HE.out

set_option maxHeartbeats 4000000 in
set_option maxRecDepth 100000 in
theorem wpath_nested (M B b : Nat) (r : WR) (w : World) (c : UInt8) (nm : List UInt8) (n : Nat) (fl : Bool) (a : Option Addr) (m cap : Nat) (V : Nat → Array Value) (p : RT) (hP : PieceW p) (hN : n < 4611686018427387904) (hm : nameB nm = true ∨ nm = []) (h : Wr B b r w) (K : KW M B w a m V [p]) (hr : roomy r (1200 * (1 + sizes [p]))) :
    Calls Tryz.prog 41 #[.pointer (some ⟨b, 0, none⟩), .agg (rv 5 c nm n fl (.slice a m cap))] w (WrP B b (r.body (.mk 5 c nm n fl [p])) w) := by
  obtain ⟨kb, off, kd1, c1, nm1, n1, fl1, ka1, km1, kc1, rfl, K0⟩ := K.kid 0 (by simp)
  change KidW M B p _ _ _ _ _ _ _ _ w at K0
  have hm1 : m = 1 := by have := K.len; simpa using this.symm
  subst hm1
  have S0 := Lib.hid (WX.start (rv 5 c nm n fl (.slice (some ⟨kb, off, none⟩) 1 cap)) h)
  have HD := Lib.hid (fun w => disamb_text n (by omega) w)
  have LD := dis_len n (by omega)
  have eb : (⟨#[78]⟩ : ByteArray) ++ bs [c] = bs [78, c] := bs_cons 78 [c]
  have q := conv1k (w.alloc (.cells (rv 5 c nm n fl (.slice (some ⟨kb, off, none⟩) 1 cap)) tRu)) (w.heap.size + 1) (by simp) c c.toNat rfl
  simp only [sizes] at hr
  have r1 : roomy (r.put [78, c]) (1100 + 1200 * size p) := roomy.put 100 (hr.le (by omega)) (by simp)
  have r2 : roomy ((r.put [78, c]).tree p) 1100 := roomy.tree r1 (K.el p (by simp))
  have r3 : roomy (((r.put [78, c]).tree p).put (dis n)) 1010 := roomy.put 90 r2 (by omega)
  have D1 := Lib.hid (does_put (B := B) (b := b) (cs := (rv 5 c nm n fl (.slice (some ⟨kb, off, none⟩) 1 cap))) (w0 := w) [78, c] (hr.le (by omega)) (by simp))
  have D2 := Lib.hid (does_kid (b := b) (cs := (rv 5 c nm n fl (.slice (some ⟨kb, off, none⟩) 1 cap))) K0 K.hB hP (r1.le (by omega)))
  have D3 := Lib.hid (does_put (B := B) (b := b) (cs := (rv 5 c nm n fl (.slice (some ⟨kb, off, none⟩) 1 cap))) (w0 := w) (dis n) (r2.le (by omega)) (by omega))
  have D4 := Lib.hid (does_name (B := B) (b := b) (cs := (rv 5 c nm n fl (.slice (some ⟨kb, off, none⟩) 1 cap))) (w0 := w) nm hm (r3.le (by omega)))
  have HK := Lib.hid (fun w' r (h : WX B b (rv 5 c nm n fl (.slice (some ⟨kb, off, none⟩) 1 cap)) w r w') => K0.wcells K.hB h)
  have HE : Hid ((((r.put [78, c]).tree p).put (dis n)).name nm = r.body (.mk 5 c nm n fl [p])) := Lib.hid (by
    rw [WR.put_let r (by unfold letHd; decide)]
    have hi : nm ≠ [] → idW nm ≠ [] := by
      intro hne
      obtain ⟨c1, l1, e1, _⟩ := idW_head (hm.resolve_right hne)
      rw [e1]; simp
    by_cases hd : dis n = [] <;> by_cases h0 : nm = []
    · simp [WR.body, WR.tree, enc, emp, bnds, size, sizes, WR.put, WR.name, nameText, pt, pe, hd, h0, empL, encs, bndsL]
    · simp [WR.body, WR.tree, enc, emp, bnds, size, sizes, WR.put, WR.name, nameText, pt, pe, hd, h0, hi h0, empL, encs, bndsL]
    · simp [WR.body, WR.tree, enc, emp, bnds, size, sizes, WR.put, WR.name, nameText, pt, pe, hd, h0, empL, encs, bndsL]
    · simp [WR.body, WR.tree, enc, emp, bnds, size, sizes, WR.put, WR.name, nameText, pt, pe, hd, h0, hi h0, empL, encs, bndsL])
  clear h hr r1 r2 r3 LD hm K K0 hP
  go_enter Tryz.func41, Tryz.ntmps41
  go_wp2_with fail
  refine (D1.out _ (S0.out.alloc _)).mono ?_
  rintro e w1 ⟨rfl, h1⟩
  obtain ⟨_, _, _, _, _, b5⟩ := h1.cells
  obtain ⟨k00, k01, k02, k03, k04, k05⟩ := HK.out _ _ h1
  simp only [Nat.zero_mul, Nat.add_zero] at k00 k01 k02 k03 k04 k05
  have S1 := Lib.hid h1
  clear h1
  go_wp2_with fail
  refine (D2.out _ S1.out).mono ?_
  rintro e w2 ⟨rfl, h2⟩
  obtain ⟨_, _, _, b3, _, _⟩ := h2.cells
  have S2 := Lib.hid h2
  clear h2
  go_wp2_with fail
  refine (HD.out _).mono ?_
  rintro e w3 ⟨rfl, q3, rfl⟩
  have S3 := Lib.hid ((S2.out).drewN q3)
  go_wp2_with fail
  refine (D3.out _ S3.out).mono ?_
  rintro e w4 ⟨rfl, h4⟩
  obtain ⟨_, _, b2, _, _, _⟩ := h4.cells
  have S4 := Lib.hid h4
  clear h4
  go_wp2_with fail
  refine (D4.out _ S4.out).mono ?_
  rintro e w5 ⟨rfl, h5⟩
  have S5 := Lib.hid h5
  clear h5
  go_wp2
  go_end0
  exact (S5.out).post HE.out

end Go.Proofs.YtidokamjbglkbaaGreatDoor

