/- The writer at arguments. -/
import Derived.Test.YtidokamjbglkbaaGreatDoorY26
import Derived.BigRegion
namespace Go.Proofs.YtidokamjbglkbaaGreatDoor
open Go.RowKit

/-- What a tree in memory is made of. -/
theorem TreeAt.cut {M N : Nat} {w : World} {kd : Int} {c : UInt8} {nm : List UInt8} {n : Nat} {fl : Bool} {kv : Value} {t : RT} (hT : TreeAt M N w (rv kd c nm n fl kv) t) :
    ∃ (a : Option Addr) (m cap : Nat) (V : Nat → Array Value) (ks : List RT), kv = .slice a m cap ∧ t = .mk kd c nm n fl ks ∧ n < 18446744073709551616 ∧ ks.length = m ∧ (m ≤ cap ∧ cap ≤ maxLen) ∧ nm.length ≤ M ∧ m ≤ M ∧ KidsIn N w a m V ∧ ∀ i (h : i < ks.length), TreeAt M N w (V i) ks[i] := by
  generalize hv : rv kd c nm n fl kv = v at hT
  cases hT with
  | mk kd' c' nm' n' fl' a m cap V ks hn hk hc hnm hV hTr =>
    have hv0 := congrArg (fun x => x[0]?) hv
    have hv1 := congrArg (fun x => x[1]?) hv
    have hv2 := congrArg (fun x => x[2]?) hv
    have hv3 := congrArg (fun x => x[3]?) hv
    have hv4 := congrArg (fun x => x[4]?) hv
    have hv5 := congrArg (fun x => x[5]?) hv
    simp at hv0 hv1 hv2 hv3 hv4 hv5
    subst hv0; subst hv4; subst hv5
    obtain rfl : n = n' := by omega
    obtain rfl : c = c' := UInt8.toNat_inj.1 (by omega)
    obtain rfl : nm = nm' := bs_inj hv2
    exact ⟨a, m, cap, V, ks, rfl, rfl, hn, hk, hc, hnm.1, hnm.2, hV, hTr⟩
theorem TreeAt.kd' {M N : Nat} {w : World} {kd : Int} {c : UInt8} {nm : List UInt8} {n : Nat} {fl : Bool} {ks : Value} {t : RT} (h : TreeAt M N w (rv kd c nm n fl ks) t) : t.kd = kd := by
  obtain ⟨_, _, _, _, ks, _, rfl, _⟩ := h.cut
  rfl

/-- piece, at a tree, where there is room for s bytes. -/
def PieceN (t : RT) (s : Nat) : Prop := ∀ (M B b : Nat) (r : WR) (w : World) (kd : Int) (c : UInt8) (nm : List UInt8) (n : Nat) (fl : Bool) (kv : Value), TreeAt M B w (rv kd c nm n fl kv) t → Wr B b r w → roomy r s →
  Calls Tryz.prog 23 #[.pointer (some ⟨b, 0, none⟩), .agg (rv kd c nm n fl kv)] w (WrP B b (r.tree t) w)
theorem PieceN.piece {t : RT} {s : Nat} (h : PieceN t s) (hs : s ≤ 1200 * size t) : PieceW t := fun M B b r w kd c nm n fl kv hT hw hr => h M B b r w kd c nm n fl kv hT hw ((show roomy r _ from hr).le hs)

set_option maxHeartbeats 4000000 in
set_option maxRecDepth 100000 in
theorem arg_piece (t : RT) (hp : PieceW t) (hk : t.kd ≠ 19) (h20 : t.kd ≠ 20) (h21 : t.kd ≠ 21) : ArgW t := by
  intro M B b r w kd c nm n fl kv hT h hr
  obtain rfl := hT.kd'
  have S0 := Lib.hid (WX.start (rv t.kd c nm n fl kv) h)
  have D1 := Lib.hid (does_of (b := b) (cs := rv t.kd c nm n fl kv) fun w' (hw : WX B b (rv t.kd c nm n fl kv) w r w') => hp M B b r w' t.kd c nm n fl kv (hT.mono (Nat.le_refl _) (hw.same h.hB)) hw.wr hr)
  have HE : Hid (r.tree t = r.argu t) := Lib.hid (by
    have : argMark t.kd = [] := by unfold argMark; rw [if_neg (by omega)]
    simp [WR.tree, WR.argu, this])
  have f1 : (t.kd == 19) = false := by rw [beq_eq_false_iff_ne]; exact hk
  have f2 : (t.kd == 20) = false := by rw [beq_eq_false_iff_ne]; exact h20
  have f3 : (t.kd == 21) = false := by rw [beq_eq_false_iff_ne]; exact h21
  clear hp hk h20 h21 h hr hT
  go_enter Tryz.func64, Tryz.ntmps64
  go_wp2_with fail
  refine (D1.out _ S0.out).mono ?_
  rintro e w1 ⟨rfl, h1⟩
  have S1 := Lib.hid h1
  clear h1
  go_wp2
  go_end0
  exact S1.out.post HE.out

set_option maxHeartbeats 4000000 in
set_option maxRecDepth 100000 in
theorem arg_const (t : RT) (hp : PieceN t 1100) (hk : t.kd = 20 ∨ t.kd = 21) : ArgW t := by
  intro M B b r w kd c nm n fl kv hT h hr
  obtain rfl := hT.kd'
  have hs := size_pos t
  have r1 : roomy (r.put [75]) 1100 := roomy.put 100 ((show roomy r _ from hr).le (by omega)) (by simp)
  have S0 := Lib.hid (WX.start (rv t.kd c nm n fl kv) h)
  have D1 := Lib.hid (does_put (B := B) (b := b) (cs := rv t.kd c nm n fl kv) (w0 := w) [75] (r := r) ((show roomy r _ from hr).le (by omega)) (by simp))
  have D2 := Lib.hid (does_of (b := b) (cs := rv t.kd c nm n fl kv) fun w' (hw : WX B b (rv t.kd c nm n fl kv) w (r.put [75]) w') => hp M B b (r.put [75]) w' t.kd c nm n fl kv (hT.mono (Nat.le_refl _) (hw.same h.hB)) hw.wr r1)
  have HE : Hid ((r.put [75]).tree t = r.argu t) := Lib.hid (by
    have : argMark t.kd = [75] := by unfold argMark; rw [if_pos hk]
    rw [WR.put_let r (by unfold letHd; decide)]
    simp [WR.tree, WR.argu, this])
  generalize t.kd = kd at *
  clear hp h hr hT r1
  rcases hk with rfl | rfl
  all_goals
    go_enter Tryz.func64, Tryz.ntmps64
    go_wp2_with fail
    refine (D1.out _ S0.out).mono ?_
    rintro e w1 ⟨rfl, h1⟩
    obtain ⟨b0, b1, b2, b3, b4, b5⟩ := h1.cells
    have S1 := Lib.hid h1
    clear h1
    go_wp2_with fail
    refine (D2.out _ S1.out).mono ?_
    rintro e w2 ⟨rfl, h2⟩
    have S2 := Lib.hid h2
    clear h2
    go_wp2
    go_end0
    exact S2.out.post HE.out

set_option maxHeartbeats 4000000 in
set_option maxRecDepth 100000 in
theorem arg_life (c : UInt8) (nm : List UInt8) (n : Nat) (fl : Bool) (hn : n ≤ 20) : ArgW (.mk 19 c nm n fl []) := by
  intro M B b r w kd c' nm' n' fl' kv hT h hr
  obtain ⟨_, _, _, _, ks, hkv, e, _⟩ := hT.cut
  clear hkv
  simp only [RT.mk.injEq] at e
  obtain ⟨rfl, rfl, rfl, rfl, rfl, _⟩ := e
  have S0 := Lib.hid (WX.start (rv 19 c nm n fl kv) h)
  have HD := Lib.hid (fun w => base62_text n (by omega) w)
  have LD := b62_len n (by omega)
  have hmx : ¬ 9223372036854775807 < (b62 n).length + 1 := by omega
  have eb := bs_cons 76 (b62 n)
  have D1 := Lib.hid (does_put (B := B) (b := b) (cs := (rv 19 c nm n fl kv)) (w0 := w) (76 :: b62 n) ((show roomy r _ from hr).le (by omega)) (by simp; omega))
  have HE : Hid ({ r.put (76 :: b62 n) with cnt := r.cnt + 1 } = r.argu (.mk 19 c nm n fl [])) := Lib.hid (by
    rw [WR.put_let r (by unfold letHd; decide)]
    simp [WR.argu, RT.kd, argMark, enc, emp, bnds, size, sizes, lifeCode])
  clear h hr hT LD hn
  go_enter Tryz.func64, Tryz.ntmps64
  go_wp2_with fail
  refine (HD.out _).mono ?_
  rintro e w1 ⟨rfl, q1, rfl⟩
  have S1 := Lib.hid (S0.out.drewN q1)
  go_wp2_with fail
  refine (D1.out _ S1.out).mono ?_
  rintro e w2 ⟨rfl, h2⟩
  have S2 := Lib.hid h2
  clear h2
  go_wp2
  go_end0
  refine ⟨rfl, (S2.out.wr.mono (n := r.cnt + 1) ?_).cast HE.out, S2.out.kept⟩
  have := (WR.put_bound r (76 :: b62 n)).2.2.2
  omega
end Go.Proofs.YtidokamjbglkbaaGreatDoor

/- The writer at functions. -/
namespace Go.Proofs.YtidokamjbglkbaaGreatDoor
open Go.RowKit

/-- What stands behind K. -/
def abiBody (nm : List UInt8) : List UInt8 := if nm = [67] then [67] else idW (nm.map dash)
theorem abiCode_ne {nm : List UInt8} (h : nm ≠ []) : abiCode idW nm = 75 :: abiBody nm := by
  unfold abiCode abiBody
  rw [if_neg h]
  split <;> rfl
theorem abiBody_len {nm : List UInt8} (hl : abiB nm = true) (h : nm ≠ []) : (abiBody nm).length ≤ 1010 := by
  unfold abiBody
  split
  · simp
  · rename_i hC
    have := idW_len' (.inl (abi_map hl h hC).1)
    unfold dash
    omega
set_option maxHeartbeats 2000000 in
set_option maxRecDepth 100000 in
theorem abi_text (nm : List UInt8) (hl : abiB nm = true) (h : nm ≠ []) (B : Nat) (w : World) (hT : Tabs B w) (hB : B ≤ w.heap.size) :
    Calls Tryz.prog 66 #[.string (bs nm)] w fun e w' => e = .returned (.string (bs (abiBody nm))) ∧ Below w.heap.size w w' := by
  by_cases hC : nm = [67]
  · subst hC
    have h67 : ((bs [67]).toList == [67]) = true := by rw [ByteArray.toList_eq]; decide
    have HB : Hid (bs (abiBody [67]) = ⟨#[67]⟩) := Lib.hid rfl
    clear hl h hT hB
    go_enter Tryz.func66, Tryz.ntmps66
    go_wp2
    go_ret
    refine ⟨?_, Below.refl _ _⟩
    rw [HB.out]
    rfl
  · have e : abiBody nm = idW (nm.map dash) := if_neg hC
    rw [e]
    exact rustABI_any nm hl h hC B w hT hB

/-- The writer takes back what it has bound. -/
theorem unbind {B b : Nat} {cs : Array Value} {w0 w : World} {r : WR} {k n : Nat} (h : WX B b cs w0 r w) (hb : b < w0.heap.size) (hn : r.bound = k + n) (hk : k ≤ 20 * r.out.length) (hl : r.out.length ≤ 900000000) :
    w.cell? ⟨b, 7, none⟩ = some (.int .i64 ((k : Int) + (n : Int))) ∧ w.frozen? ⟨b, 7, none⟩ = false ∧ WX B b cs w0 { r with bound := k } ((w.setCell ⟨b, 7, none⟩ (.int .i64 (wrap64 (k : Int)))).drewN 1) := by
  obtain ⟨vo, vt, vm, vb, ts, ms, h1⟩ := h.wr
  have c7 := h1.c7
  rw [hn] at c7
  refine ⟨by simpa using c7, h1.fz 7, ?_, ?_, ?_⟩
  · exact (h1.setBound k (by unfold wrap64; omega) hk).wr.drewN 1
  · exact (h1.keeps h.kept 7 _).drewN 1
  · show (w.setCell _ _).heap[w0.heap.size]? = _
    rw [Below.heap_setCell _ _ _ _ (show w0.heap.size ≠ b by omega)]
    exact h.box

theorem fn_HE_0_0 (r : WR) (c : UInt8) (nm : List UInt8) (n : Nat) (ps : List RT) (x : RT) (h0 : nm = []) : { (((((r.put [70]).bind n).trees ps).put [69]).tree x) with bound := r.bound } = r.body (.mk 15 c nm n false (ps ++ [x])) := by
  rw [WR.put_let r (by unfold letHd; decide)]
  have e1 : ∀ (r : WR) (l : List UInt8), r.empty = false → r.put l = { r with out := r.out ++ l } := fun r l h => by rw [WR.put_plain r l h]; cases r; simp at h; subst h; rfl
  unfold WR.bind
  rw [e1 _ (binder n) rfl]
  rw [WR.trees_eq, WR.put_let _ (l := []) (show letHd 69 by unfold letHd; decide)]
  simp [WR.body, WR.tree, enc, emp, bnds, size, sizes, sizes_append, encsE_snoc, bndsE_snoc, empL_snoc, fnHead, h0, abiCode, Nat.add_assoc, Nat.add_comm 1]
theorem fn_HE_0_1 (r : WR) (c : UInt8) (nm : List UInt8) (n : Nat) (ps : List RT) (x : RT) (h0 : nm ≠ []) : { ((((((r.put [70]).bind n).put (75 :: abiBody nm)).trees ps).put [69]).tree x) with bound := r.bound } = r.body (.mk 15 c nm n false (ps ++ [x])) := by
  rw [WR.put_let r (by unfold letHd; decide)]
  have e1 : ∀ (r : WR) (l : List UInt8), r.empty = false → r.put l = { r with out := r.out ++ l } := fun r l h => by rw [WR.put_plain r l h]; cases r; simp at h; subst h; rfl
  have ea := abiCode_ne h0
  unfold WR.bind
  rw [e1 _ (binder n) rfl, WR.put_let _ (l := abiBody nm) (show letHd 75 by unfold letHd; decide)]
  rw [WR.trees_eq, WR.put_let _ (l := []) (show letHd 69 by unfold letHd; decide)]
  simp [WR.body, WR.tree, enc, emp, bnds, size, sizes, sizes_append, encsE_snoc, bndsE_snoc, empL_snoc, fnHead, ea, Nat.add_assoc, Nat.add_comm 1]
  exact congrArg (fun k => bnds idW k (r.bound + n) x) (by omega)
theorem fn_HE_1_0 (r : WR) (c : UInt8) (nm : List UInt8) (n : Nat) (ps : List RT) (x : RT) (h0 : nm = []) : { ((((((r.put [70]).bind n).put [85]).trees ps).put [69]).tree x) with bound := r.bound } = r.body (.mk 15 c nm n true (ps ++ [x])) := by
  rw [WR.put_let r (by unfold letHd; decide)]
  have e1 : ∀ (r : WR) (l : List UInt8), r.empty = false → r.put l = { r with out := r.out ++ l } := fun r l h => by rw [WR.put_plain r l h]; cases r; simp at h; subst h; rfl
  unfold WR.bind
  rw [e1 _ (binder n) rfl, WR.put_let _ (l := []) (show letHd 85 by unfold letHd; decide)]
  rw [WR.trees_eq, WR.put_let _ (l := []) (show letHd 69 by unfold letHd; decide)]
  simp [WR.body, WR.tree, enc, emp, bnds, size, sizes, sizes_append, encsE_snoc, bndsE_snoc, empL_snoc, fnHead, h0, abiCode, Nat.add_assoc, Nat.add_comm 1]
  exact congrArg (fun k => bnds idW k (r.bound + n) x) (by omega)
theorem fn_HE_1_1 (r : WR) (c : UInt8) (nm : List UInt8) (n : Nat) (ps : List RT) (x : RT) (h0 : nm ≠ []) : { (((((((r.put [70]).bind n).put [85]).put (75 :: abiBody nm)).trees ps).put [69]).tree x) with bound := r.bound } = r.body (.mk 15 c nm n true (ps ++ [x])) := by
  rw [WR.put_let r (by unfold letHd; decide)]
  have e1 : ∀ (r : WR) (l : List UInt8), r.empty = false → r.put l = { r with out := r.out ++ l } := fun r l h => by rw [WR.put_plain r l h]; cases r; simp at h; subst h; rfl
  have ea := abiCode_ne h0
  unfold WR.bind
  rw [e1 _ (binder n) rfl, WR.put_let _ (l := []) (show letHd 85 by unfold letHd; decide), WR.put_let _ (l := abiBody nm) (show letHd 75 by unfold letHd; decide)]
  rw [WR.trees_eq, WR.put_let _ (l := []) (show letHd 69 by unfold letHd; decide)]
  simp [WR.body, WR.tree, enc, emp, bnds, size, sizes, sizes_append, encsE_snoc, bndsE_snoc, empL_snoc, fnHead, ea, Nat.add_assoc, Nat.add_comm 1]
  exact congrArg (fun k => bnds idW k (r.bound + n) x) (by omega)

set_option maxHeartbeats 4000000 in
set_option maxRecDepth 100000 in
theorem wother_fn_0_0 (M B b : Nat) (r : WR) (w : World) (c : UInt8) (nm : List UInt8) (n : Nat) (a : Option Addr) (m cap : Nat) (V : Nat → Array Value) (ps : List RT) (x : RT) (hn : n ≤ 20) (h0 : nm = []) (hc : m ≤ cap) (hP : ∀ y ∈ ps ++ [x], PieceW y) (h : Wr B b r w) (K : KW M B w a m V (ps ++ [x])) (hr : roomy r (1200 * (1 + sizes (ps ++ [x])))) :
    Calls Tryz.prog 44 #[.pointer (some ⟨b, 0, none⟩), .agg (rv 15 c nm n false (.slice a m cap))] w (WrP B b (r.body (.mk 15 c nm n false (ps ++ [x]))) w) := by
  obtain ⟨q, hq⟩ : ∃ q, ps.length = q := ⟨_, rfl⟩
  obtain rfl : q + 1 = m := by have := K.len; simp at this; omega
  obtain ⟨kb, off, kd1, c1, nm1, n1, fl1, ka1, km1, kc1, rfl, K0⟩ := K.kid q (by simp; omega)
  have er : (ps ++ [x])[q]'(by simp; omega) = x := by subst hq; simp
  rw [er] at K0
  have KI := K.init
  rw [Nat.add_sub_cancel] at KI
  have hsz : sizes (ps ++ [x]) = sizes ps + size x := by simp [sizes_append, sizes]
  rw [hsz] at hr
  have hqx : q + 1 ≤ 9223372036854775807 := by have := K.small; omega
  have hqc : q ≤ cap := by omega
  have S0 := Lib.hid (WX.start (rv 15 c nm n false (.slice (some ⟨kb, off, none⟩) (q + 1 : Nat) cap)) h)
  have r1 : roomy (r.put [70]) (1198 + 1200 * (sizes ps + size x)) := roomy.put 2 (hr.le (by omega)) (by simp)
  have r2 : roomy ((r.put [70]).bind n) (1183 + 1200 * (sizes ps + size x)) := roomy.bind (r1.le (by omega)) hn
  have r5 : roomy (((r.put [70]).bind n).trees ps) (100 + 1200 * size x) := roomy.trees (r2.le (by omega)) KI.el
  have r6 : roomy ((((r.put [70]).bind n).trees ps).put [69]) (90 + 1200 * size x) := roomy.put 10 (r5.le (by omega)) (by simp)
  have D1 := Lib.hid (does_put (B := B) (b := b) (cs := (rv 15 c nm n false (.slice (some ⟨kb, off, none⟩) (q + 1 : Nat) cap))) (w0 := w) [70] (hr.le (by omega)) (by simp))
  have D2 := Lib.hid (does_bind (B := B) (b := b) (cs := (rv 15 c nm n false (.slice (some ⟨kb, off, none⟩) (q + 1 : Nat) cap))) (w0 := w) n hn (r1.le (by omega)))
  have D5 := Lib.hid (does_pieces (b := b) (cs := (rv 15 c nm n false (.slice (some ⟨kb, off, none⟩) (q + 1 : Nat) cap))) cap KI (fun y hy => hP y (List.mem_append_left _ hy)) (r2.le (by omega)))
  have D6 := Lib.hid (does_put (B := B) (b := b) (cs := (rv 15 c nm n false (.slice (some ⟨kb, off, none⟩) (q + 1 : Nat) cap))) (w0 := w) [69] (r5.le (by omega)) (by simp))
  have D7 := Lib.hid (does_kid (b := b) (cs := (rv 15 c nm n false (.slice (some ⟨kb, off, none⟩) (q + 1 : Nat) cap))) K0 K.hB (hP x (by simp)) (r6.le (by omega)))
  have HK := Lib.hid (fun w' r (h : WX B b (rv 15 c nm n false (.slice (some ⟨kb, off, none⟩) (q + 1 : Nat) cap)) w r w') => K0.wcells K.hB h)
  have HE := Lib.hid (fn_HE_0_0 r c nm n ps x h0)
  have hbd : (((((r.put [70]).bind n).trees ps).put [69]).tree x).bound = r.bound + n := by rw [WR.tree, (WR.put_bound _ [69]).1, WR.trees_eq]; show WR.bound (WR.bind _ _) = _; rw [WR.bind, (WR.put_bound r [70]).1]
  have r7 : roomy (((((r.put [70]).bind n).trees ps).put [69]).tree x) 0 := roomy.tree (r6.le (by omega)) (K.el x (by simp))
  have hbb : r.bound ≤ 20 * (((((r.put [70]).bind n).trees ps).put [69]).tree x).out.length := by obtain ⟨_, _, _, _, _, _, h0⟩ := h; have := h0.bd; have h9 := congrArg (fun r : WR => r.out.length) HE.out; simp only [WR.body, List.length_append] at h9; omega
  have HU := Lib.hid (fun w' (h1 : WX B b (rv 15 c nm n false (.slice (some ⟨kb, off, none⟩) (q + 1 : Nat) cap)) w (((((r.put [70]).bind n).trees ps).put [69]).tree x) w') => unbind (n := n) h1 h.lt hbd hbb (by unfold roomy at r7; omega))
  have ht0 : (bs nm).toList.isEmpty = true := by rw [h0, ByteArray.toList_eq]; rfl
  clear h hr r1 r2 r5 r6 r7 hbb hbd K K0 KI hsz er hq h0 hc hP
  go_enter Tryz.func44, Tryz.ntmps44
  go_wp2_with fail
  refine (D1.out _ S0.out).mono ?_
  rintro e w1 ⟨rfl, h1⟩
  obtain ⟨_, _, _, b3, _, _⟩ := h1.cells
  have S1 := Lib.hid h1
  clear h1
  go_wp2_with fail
  refine (D2.out _ S1.out).mono ?_
  rintro e w2 ⟨rfl, h2⟩
  obtain ⟨_, _, b2, _, b4, b5⟩ := h2.cells
  have S2 := Lib.hid h2
  clear h2
  go_wp2_with fail
  refine (D5.out _ S2.out).mono ?_
  rintro e w3 ⟨rfl, h3⟩
  have S3 := Lib.hid h3
  clear h3
  go_wp2_with fail
  refine (D6.out _ S3.out).mono ?_
  rintro e w4 ⟨rfl, h4⟩
  obtain ⟨_, _, _, _, _, b5⟩ := h4.cells
  obtain ⟨k00, k01, k02, k03, k04, k05⟩ := HK.out _ _ h4
  have S4 := Lib.hid h4
  clear h4
  go_wp2_with fail
  refine (D7.out _ S4.out).mono ?_
  rintro e w5 ⟨rfl, h5⟩
  obtain ⟨_, _, _, b3, _, _⟩ := h5.cells
  obtain ⟨u7, uf, hu⟩ := HU.out _ h5
  have SU := Lib.hid hu
  clear h5 hu
  go_wp2
  go_region
  go_end0
  exact SU.out.post HE.out

set_option maxHeartbeats 4000000 in
set_option maxRecDepth 100000 in
theorem wother_fn_0_1 (M B b : Nat) (r : WR) (w : World) (c : UInt8) (nm : List UInt8) (n : Nat) (a : Option Addr) (m cap : Nat) (V : Nat → Array Value) (ps : List RT) (x : RT) (hn : n ≤ 20) (hab : abiB nm = true) (h0 : nm ≠ []) (hc : m ≤ cap) (hP : ∀ y ∈ ps ++ [x], PieceW y) (h : Wr B b r w) (K : KW M B w a m V (ps ++ [x])) (hr : roomy r (1200 * (1 + sizes (ps ++ [x])))) :
    Calls Tryz.prog 44 #[.pointer (some ⟨b, 0, none⟩), .agg (rv 15 c nm n false (.slice a m cap))] w (WrP B b (r.body (.mk 15 c nm n false (ps ++ [x]))) w) := by
  obtain ⟨q, hq⟩ : ∃ q, ps.length = q := ⟨_, rfl⟩
  obtain rfl : q + 1 = m := by have := K.len; simp at this; omega
  obtain ⟨kb, off, kd1, c1, nm1, n1, fl1, ka1, km1, kc1, rfl, K0⟩ := K.kid q (by simp; omega)
  have er : (ps ++ [x])[q]'(by simp; omega) = x := by subst hq; simp
  rw [er] at K0
  have KI := K.init
  rw [Nat.add_sub_cancel] at KI
  have hsz : sizes (ps ++ [x]) = sizes ps + size x := by simp [sizes_append, sizes]
  rw [hsz] at hr
  have hqx : q + 1 ≤ 9223372036854775807 := by have := K.small; omega
  have hqc : q ≤ cap := by omega
  have S0 := Lib.hid (WX.start (rv 15 c nm n false (.slice (some ⟨kb, off, none⟩) (q + 1 : Nat) cap)) h)
  have r1 : roomy (r.put [70]) (1198 + 1200 * (sizes ps + size x)) := roomy.put 2 (hr.le (by omega)) (by simp)
  have r2 : roomy ((r.put [70]).bind n) (1183 + 1200 * (sizes ps + size x)) := roomy.bind (r1.le (by omega)) hn
  have LA := abiBody_len hab h0
  have r4 : roomy (((r.put [70]).bind n).put (75 :: abiBody nm)) (100 + 1200 * (sizes ps + size x)) := roomy.put 1012 (r2.le (by omega)) (by simp; omega)
  have r5 : roomy ((((r.put [70]).bind n).put (75 :: abiBody nm)).trees ps) (100 + 1200 * size x) := roomy.trees (r4.le (by omega)) KI.el
  have r6 : roomy (((((r.put [70]).bind n).put (75 :: abiBody nm)).trees ps).put [69]) (90 + 1200 * size x) := roomy.put 10 (r5.le (by omega)) (by simp)
  have D1 := Lib.hid (does_put (B := B) (b := b) (cs := (rv 15 c nm n false (.slice (some ⟨kb, off, none⟩) (q + 1 : Nat) cap))) (w0 := w) [70] (hr.le (by omega)) (by simp))
  have D2 := Lib.hid (does_bind (B := B) (b := b) (cs := (rv 15 c nm n false (.slice (some ⟨kb, off, none⟩) (q + 1 : Nat) cap))) (w0 := w) n hn (r1.le (by omega)))
  have D4 := Lib.hid (does_put (B := B) (b := b) (cs := (rv 15 c nm n false (.slice (some ⟨kb, off, none⟩) (q + 1 : Nat) cap))) (w0 := w) (75 :: abiBody nm) (r2.le (by omega)) (by simp; omega))
  have HAB := Lib.hid (fun w' r (h : WX B b (rv 15 c nm n false (.slice (some ⟨kb, off, none⟩) (q + 1 : Nat) cap)) w r w') => abi_text nm hab h0 B w' h.wr.tabs h.wr.hB)
  have eb := bs_cons 75 (abiBody nm)
  have hmx : ¬ 9223372036854775807 < (abiBody nm).length + 1 := by omega
  have D5 := Lib.hid (does_pieces (b := b) (cs := (rv 15 c nm n false (.slice (some ⟨kb, off, none⟩) (q + 1 : Nat) cap))) cap KI (fun y hy => hP y (List.mem_append_left _ hy)) (r4.le (by omega)))
  have D6 := Lib.hid (does_put (B := B) (b := b) (cs := (rv 15 c nm n false (.slice (some ⟨kb, off, none⟩) (q + 1 : Nat) cap))) (w0 := w) [69] (r5.le (by omega)) (by simp))
  have D7 := Lib.hid (does_kid (b := b) (cs := (rv 15 c nm n false (.slice (some ⟨kb, off, none⟩) (q + 1 : Nat) cap))) K0 K.hB (hP x (by simp)) (r6.le (by omega)))
  have HK := Lib.hid (fun w' r (h : WX B b (rv 15 c nm n false (.slice (some ⟨kb, off, none⟩) (q + 1 : Nat) cap)) w r w') => K0.wcells K.hB h)
  have HE := Lib.hid (fn_HE_0_1 r c nm n ps x h0)
  have hbd : ((((((r.put [70]).bind n).put (75 :: abiBody nm)).trees ps).put [69]).tree x).bound = r.bound + n := by rw [WR.tree, (WR.put_bound _ [69]).1, WR.trees_eq]; show WR.bound (WR.put _ _) = _; rw [(WR.put_bound _ _).1]; show WR.bound (WR.bind _ _) = _; rw [WR.bind, (WR.put_bound r [70]).1]
  have r7 : roomy ((((((r.put [70]).bind n).put (75 :: abiBody nm)).trees ps).put [69]).tree x) 0 := roomy.tree (r6.le (by omega)) (K.el x (by simp))
  have hbb : r.bound ≤ 20 * ((((((r.put [70]).bind n).put (75 :: abiBody nm)).trees ps).put [69]).tree x).out.length := by obtain ⟨_, _, _, _, _, _, h0⟩ := h; have := h0.bd; have h9 := congrArg (fun r : WR => r.out.length) HE.out; simp only [WR.body, List.length_append] at h9; omega
  have HU := Lib.hid (fun w' (h1 : WX B b (rv 15 c nm n false (.slice (some ⟨kb, off, none⟩) (q + 1 : Nat) cap)) w ((((((r.put [70]).bind n).put (75 :: abiBody nm)).trees ps).put [69]).tree x) w') => unbind (n := n) h1 h.lt hbd hbb (by unfold roomy at r7; omega))
  have ht0 : (bs nm).toList.isEmpty = false := by rw [ByteArray.toList_eq]; cases nm with | nil => exact absurd rfl h0 | cons a b => rfl
  clear h hr r1 r2 r4 LA hab r5 r6 r7 hbb hbd K K0 KI hsz er hq h0 hc hP
  go_enter Tryz.func44, Tryz.ntmps44
  go_wp2_with fail
  refine (D1.out _ S0.out).mono ?_
  rintro e w1 ⟨rfl, h1⟩
  obtain ⟨_, _, _, b3, _, _⟩ := h1.cells
  have S1 := Lib.hid h1
  clear h1
  go_wp2_with fail
  refine (D2.out _ S1.out).mono ?_
  rintro e w2 ⟨rfl, h2⟩
  obtain ⟨_, _, b2, _, b4, b5⟩ := h2.cells
  have S2 := Lib.hid h2
  clear h2
  go_wp2_with fail
  refine (HAB.out _ _ S2.out).mono ?_
  rintro e w3 ⟨rfl, g3⟩
  have S3 := Lib.hid ((S2.out).below g3)
  clear g3
  go_wp2_with fail
  refine (D4.out _ S3.out).mono ?_
  rintro e w4 ⟨rfl, h4⟩
  obtain ⟨_, _, _, _, _, b5⟩ := h4.cells
  have S4 := Lib.hid h4
  clear h4
  go_wp2_with fail
  refine (D5.out _ S4.out).mono ?_
  rintro e w5 ⟨rfl, h5⟩
  have S5 := Lib.hid h5
  clear h5
  go_wp2_with fail
  refine (D6.out _ S5.out).mono ?_
  rintro e w6 ⟨rfl, h6⟩
  obtain ⟨_, _, _, _, _, b5⟩ := h6.cells
  obtain ⟨k00, k01, k02, k03, k04, k05⟩ := HK.out _ _ h6
  have S6 := Lib.hid h6
  clear h6
  go_wp2_with fail
  refine (D7.out _ S6.out).mono ?_
  rintro e w7 ⟨rfl, h7⟩
  obtain ⟨_, _, _, b3, _, _⟩ := h7.cells
  obtain ⟨u7, uf, hu⟩ := HU.out _ h7
  have SU := Lib.hid hu
  clear h7 hu
  go_wp2
  go_region
  go_end0
  exact SU.out.post HE.out

set_option maxHeartbeats 4000000 in
set_option maxRecDepth 100000 in
theorem wother_fn_1_0 (M B b : Nat) (r : WR) (w : World) (c : UInt8) (nm : List UInt8) (n : Nat) (a : Option Addr) (m cap : Nat) (V : Nat → Array Value) (ps : List RT) (x : RT) (hn : n ≤ 20) (h0 : nm = []) (hc : m ≤ cap) (hP : ∀ y ∈ ps ++ [x], PieceW y) (h : Wr B b r w) (K : KW M B w a m V (ps ++ [x])) (hr : roomy r (1200 * (1 + sizes (ps ++ [x])))) :
    Calls Tryz.prog 44 #[.pointer (some ⟨b, 0, none⟩), .agg (rv 15 c nm n true (.slice a m cap))] w (WrP B b (r.body (.mk 15 c nm n true (ps ++ [x]))) w) := by
  obtain ⟨q, hq⟩ : ∃ q, ps.length = q := ⟨_, rfl⟩
  obtain rfl : q + 1 = m := by have := K.len; simp at this; omega
  obtain ⟨kb, off, kd1, c1, nm1, n1, fl1, ka1, km1, kc1, rfl, K0⟩ := K.kid q (by simp; omega)
  have er : (ps ++ [x])[q]'(by simp; omega) = x := by subst hq; simp
  rw [er] at K0
  have KI := K.init
  rw [Nat.add_sub_cancel] at KI
  have hsz : sizes (ps ++ [x]) = sizes ps + size x := by simp [sizes_append, sizes]
  rw [hsz] at hr
  have hqx : q + 1 ≤ 9223372036854775807 := by have := K.small; omega
  have hqc : q ≤ cap := by omega
  have S0 := Lib.hid (WX.start (rv 15 c nm n true (.slice (some ⟨kb, off, none⟩) (q + 1 : Nat) cap)) h)
  have r1 : roomy (r.put [70]) (1198 + 1200 * (sizes ps + size x)) := roomy.put 2 (hr.le (by omega)) (by simp)
  have r2 : roomy ((r.put [70]).bind n) (1183 + 1200 * (sizes ps + size x)) := roomy.bind (r1.le (by omega)) hn
  have r3 : roomy (((r.put [70]).bind n).put [85]) (1181 + 1200 * (sizes ps + size x)) := roomy.put 2 (r2.le (by omega)) (by simp)
  have r5 : roomy ((((r.put [70]).bind n).put [85]).trees ps) (100 + 1200 * size x) := roomy.trees (r3.le (by omega)) KI.el
  have r6 : roomy (((((r.put [70]).bind n).put [85]).trees ps).put [69]) (90 + 1200 * size x) := roomy.put 10 (r5.le (by omega)) (by simp)
  have D1 := Lib.hid (does_put (B := B) (b := b) (cs := (rv 15 c nm n true (.slice (some ⟨kb, off, none⟩) (q + 1 : Nat) cap))) (w0 := w) [70] (hr.le (by omega)) (by simp))
  have D2 := Lib.hid (does_bind (B := B) (b := b) (cs := (rv 15 c nm n true (.slice (some ⟨kb, off, none⟩) (q + 1 : Nat) cap))) (w0 := w) n hn (r1.le (by omega)))
  have D3 := Lib.hid (does_put (B := B) (b := b) (cs := (rv 15 c nm n true (.slice (some ⟨kb, off, none⟩) (q + 1 : Nat) cap))) (w0 := w) [85] (r2.le (by omega)) (by simp))
  have D5 := Lib.hid (does_pieces (b := b) (cs := (rv 15 c nm n true (.slice (some ⟨kb, off, none⟩) (q + 1 : Nat) cap))) cap KI (fun y hy => hP y (List.mem_append_left _ hy)) (r3.le (by omega)))
  have D6 := Lib.hid (does_put (B := B) (b := b) (cs := (rv 15 c nm n true (.slice (some ⟨kb, off, none⟩) (q + 1 : Nat) cap))) (w0 := w) [69] (r5.le (by omega)) (by simp))
  have D7 := Lib.hid (does_kid (b := b) (cs := (rv 15 c nm n true (.slice (some ⟨kb, off, none⟩) (q + 1 : Nat) cap))) K0 K.hB (hP x (by simp)) (r6.le (by omega)))
  have HK := Lib.hid (fun w' r (h : WX B b (rv 15 c nm n true (.slice (some ⟨kb, off, none⟩) (q + 1 : Nat) cap)) w r w') => K0.wcells K.hB h)
  have HE := Lib.hid (fn_HE_1_0 r c nm n ps x h0)
  have hbd : ((((((r.put [70]).bind n).put [85]).trees ps).put [69]).tree x).bound = r.bound + n := by rw [WR.tree, (WR.put_bound _ [69]).1, WR.trees_eq]; show WR.bound (WR.put _ _) = _; rw [(WR.put_bound _ _).1]; show WR.bound (WR.bind _ _) = _; rw [WR.bind, (WR.put_bound r [70]).1]
  have r7 : roomy ((((((r.put [70]).bind n).put [85]).trees ps).put [69]).tree x) 0 := roomy.tree (r6.le (by omega)) (K.el x (by simp))
  have hbb : r.bound ≤ 20 * ((((((r.put [70]).bind n).put [85]).trees ps).put [69]).tree x).out.length := by obtain ⟨_, _, _, _, _, _, h0⟩ := h; have := h0.bd; have h9 := congrArg (fun r : WR => r.out.length) HE.out; simp only [WR.body, List.length_append] at h9; omega
  have HU := Lib.hid (fun w' (h1 : WX B b (rv 15 c nm n true (.slice (some ⟨kb, off, none⟩) (q + 1 : Nat) cap)) w ((((((r.put [70]).bind n).put [85]).trees ps).put [69]).tree x) w') => unbind (n := n) h1 h.lt hbd hbb (by unfold roomy at r7; omega))
  have ht0 : (bs nm).toList.isEmpty = true := by rw [h0, ByteArray.toList_eq]; rfl
  clear h hr r1 r2 r3 r5 r6 r7 hbb hbd K K0 KI hsz er hq h0 hc hP
  go_enter Tryz.func44, Tryz.ntmps44
  go_wp2_with fail
  refine (D1.out _ S0.out).mono ?_
  rintro e w1 ⟨rfl, h1⟩
  obtain ⟨_, _, _, b3, _, _⟩ := h1.cells
  have S1 := Lib.hid h1
  clear h1
  go_wp2_with fail
  refine (D2.out _ S1.out).mono ?_
  rintro e w2 ⟨rfl, h2⟩
  obtain ⟨_, _, _, _, b4, _⟩ := h2.cells
  have S2 := Lib.hid h2
  clear h2
  go_wp2_with fail
  refine (D3.out _ S2.out).mono ?_
  rintro e w3 ⟨rfl, h3⟩
  obtain ⟨_, _, b2, _, _, b5⟩ := h3.cells
  have S3 := Lib.hid h3
  clear h3
  go_wp2_with fail
  refine (D5.out _ S3.out).mono ?_
  rintro e w4 ⟨rfl, h4⟩
  have S4 := Lib.hid h4
  clear h4
  go_wp2_with fail
  refine (D6.out _ S4.out).mono ?_
  rintro e w5 ⟨rfl, h5⟩
  obtain ⟨_, _, _, _, _, b5⟩ := h5.cells
  obtain ⟨k00, k01, k02, k03, k04, k05⟩ := HK.out _ _ h5
  have S5 := Lib.hid h5
  clear h5
  go_wp2_with fail
  refine (D7.out _ S5.out).mono ?_
  rintro e w6 ⟨rfl, h6⟩
  obtain ⟨_, _, _, b3, _, _⟩ := h6.cells
  obtain ⟨u7, uf, hu⟩ := HU.out _ h6
  have SU := Lib.hid hu
  clear h6 hu
  go_wp2
  go_region
  go_end0
  exact SU.out.post HE.out

set_option maxHeartbeats 4000000 in
set_option maxRecDepth 100000 in
theorem wother_fn_1_1 (M B b : Nat) (r : WR) (w : World) (c : UInt8) (nm : List UInt8) (n : Nat) (a : Option Addr) (m cap : Nat) (V : Nat → Array Value) (ps : List RT) (x : RT) (hn : n ≤ 20) (hab : abiB nm = true) (h0 : nm ≠ []) (hc : m ≤ cap) (hP : ∀ y ∈ ps ++ [x], PieceW y) (h : Wr B b r w) (K : KW M B w a m V (ps ++ [x])) (hr : roomy r (1200 * (1 + sizes (ps ++ [x])))) :
    Calls Tryz.prog 44 #[.pointer (some ⟨b, 0, none⟩), .agg (rv 15 c nm n true (.slice a m cap))] w (WrP B b (r.body (.mk 15 c nm n true (ps ++ [x]))) w) := by
  obtain ⟨q, hq⟩ : ∃ q, ps.length = q := ⟨_, rfl⟩
  obtain rfl : q + 1 = m := by have := K.len; simp at this; omega
  obtain ⟨kb, off, kd1, c1, nm1, n1, fl1, ka1, km1, kc1, rfl, K0⟩ := K.kid q (by simp; omega)
  have er : (ps ++ [x])[q]'(by simp; omega) = x := by subst hq; simp
  rw [er] at K0
  have KI := K.init
  rw [Nat.add_sub_cancel] at KI
  have hsz : sizes (ps ++ [x]) = sizes ps + size x := by simp [sizes_append, sizes]
  rw [hsz] at hr
  have hqx : q + 1 ≤ 9223372036854775807 := by have := K.small; omega
  have hqc : q ≤ cap := by omega
  have S0 := Lib.hid (WX.start (rv 15 c nm n true (.slice (some ⟨kb, off, none⟩) (q + 1 : Nat) cap)) h)
  have r1 : roomy (r.put [70]) (1198 + 1200 * (sizes ps + size x)) := roomy.put 2 (hr.le (by omega)) (by simp)
  have r2 : roomy ((r.put [70]).bind n) (1183 + 1200 * (sizes ps + size x)) := roomy.bind (r1.le (by omega)) hn
  have r3 : roomy (((r.put [70]).bind n).put [85]) (1181 + 1200 * (sizes ps + size x)) := roomy.put 2 (r2.le (by omega)) (by simp)
  have LA := abiBody_len hab h0
  have r4 : roomy ((((r.put [70]).bind n).put [85]).put (75 :: abiBody nm)) (100 + 1200 * (sizes ps + size x)) := roomy.put 1012 (r3.le (by omega)) (by simp; omega)
  have r5 : roomy (((((r.put [70]).bind n).put [85]).put (75 :: abiBody nm)).trees ps) (100 + 1200 * size x) := roomy.trees (r4.le (by omega)) KI.el
  have r6 : roomy ((((((r.put [70]).bind n).put [85]).put (75 :: abiBody nm)).trees ps).put [69]) (90 + 1200 * size x) := roomy.put 10 (r5.le (by omega)) (by simp)
  have D1 := Lib.hid (does_put (B := B) (b := b) (cs := (rv 15 c nm n true (.slice (some ⟨kb, off, none⟩) (q + 1 : Nat) cap))) (w0 := w) [70] (hr.le (by omega)) (by simp))
  have D2 := Lib.hid (does_bind (B := B) (b := b) (cs := (rv 15 c nm n true (.slice (some ⟨kb, off, none⟩) (q + 1 : Nat) cap))) (w0 := w) n hn (r1.le (by omega)))
  have D3 := Lib.hid (does_put (B := B) (b := b) (cs := (rv 15 c nm n true (.slice (some ⟨kb, off, none⟩) (q + 1 : Nat) cap))) (w0 := w) [85] (r2.le (by omega)) (by simp))
  have D4 := Lib.hid (does_put (B := B) (b := b) (cs := (rv 15 c nm n true (.slice (some ⟨kb, off, none⟩) (q + 1 : Nat) cap))) (w0 := w) (75 :: abiBody nm) (r3.le (by omega)) (by simp; omega))
  have HAB := Lib.hid (fun w' r (h : WX B b (rv 15 c nm n true (.slice (some ⟨kb, off, none⟩) (q + 1 : Nat) cap)) w r w') => abi_text nm hab h0 B w' h.wr.tabs h.wr.hB)
  have eb := bs_cons 75 (abiBody nm)
  have hmx : ¬ 9223372036854775807 < (abiBody nm).length + 1 := by omega
  have D5 := Lib.hid (does_pieces (b := b) (cs := (rv 15 c nm n true (.slice (some ⟨kb, off, none⟩) (q + 1 : Nat) cap))) cap KI (fun y hy => hP y (List.mem_append_left _ hy)) (r4.le (by omega)))
  have D6 := Lib.hid (does_put (B := B) (b := b) (cs := (rv 15 c nm n true (.slice (some ⟨kb, off, none⟩) (q + 1 : Nat) cap))) (w0 := w) [69] (r5.le (by omega)) (by simp))
  have D7 := Lib.hid (does_kid (b := b) (cs := (rv 15 c nm n true (.slice (some ⟨kb, off, none⟩) (q + 1 : Nat) cap))) K0 K.hB (hP x (by simp)) (r6.le (by omega)))
  have HK := Lib.hid (fun w' r (h : WX B b (rv 15 c nm n true (.slice (some ⟨kb, off, none⟩) (q + 1 : Nat) cap)) w r w') => K0.wcells K.hB h)
  have HE := Lib.hid (fn_HE_1_1 r c nm n ps x h0)
  have hbd : (((((((r.put [70]).bind n).put [85]).put (75 :: abiBody nm)).trees ps).put [69]).tree x).bound = r.bound + n := by rw [WR.tree, (WR.put_bound _ [69]).1, WR.trees_eq]; show WR.bound (WR.put _ _) = _; rw [(WR.put_bound _ _).1]; show WR.bound (WR.put _ _) = _; rw [(WR.put_bound _ _).1]; show WR.bound (WR.bind _ _) = _; rw [WR.bind, (WR.put_bound r [70]).1]
  have r7 : roomy (((((((r.put [70]).bind n).put [85]).put (75 :: abiBody nm)).trees ps).put [69]).tree x) 0 := roomy.tree (r6.le (by omega)) (K.el x (by simp))
  have hbb : r.bound ≤ 20 * (((((((r.put [70]).bind n).put [85]).put (75 :: abiBody nm)).trees ps).put [69]).tree x).out.length := by obtain ⟨_, _, _, _, _, _, h0⟩ := h; have := h0.bd; have h9 := congrArg (fun r : WR => r.out.length) HE.out; simp only [WR.body, List.length_append] at h9; omega
  have HU := Lib.hid (fun w' (h1 : WX B b (rv 15 c nm n true (.slice (some ⟨kb, off, none⟩) (q + 1 : Nat) cap)) w (((((((r.put [70]).bind n).put [85]).put (75 :: abiBody nm)).trees ps).put [69]).tree x) w') => unbind (n := n) h1 h.lt hbd hbb (by unfold roomy at r7; omega))
  have ht0 : (bs nm).toList.isEmpty = false := by rw [ByteArray.toList_eq]; cases nm with | nil => exact absurd rfl h0 | cons a b => rfl
  clear h hr r1 r2 r3 r4 LA hab r5 r6 r7 hbb hbd K K0 KI hsz er hq h0 hc hP
  go_enter Tryz.func44, Tryz.ntmps44
  go_wp2_with fail
  refine (D1.out _ S0.out).mono ?_
  rintro e w1 ⟨rfl, h1⟩
  obtain ⟨_, _, _, b3, _, _⟩ := h1.cells
  have S1 := Lib.hid h1
  clear h1
  go_wp2_with fail
  refine (D2.out _ S1.out).mono ?_
  rintro e w2 ⟨rfl, h2⟩
  obtain ⟨_, _, _, _, b4, _⟩ := h2.cells
  have S2 := Lib.hid h2
  clear h2
  go_wp2_with fail
  refine (D3.out _ S2.out).mono ?_
  rintro e w3 ⟨rfl, h3⟩
  obtain ⟨_, _, b2, _, _, b5⟩ := h3.cells
  have S3 := Lib.hid h3
  clear h3
  go_wp2_with fail
  refine (HAB.out _ _ S3.out).mono ?_
  rintro e w4 ⟨rfl, g4⟩
  have S4 := Lib.hid ((S3.out).below g4)
  clear g4
  go_wp2_with fail
  refine (D4.out _ S4.out).mono ?_
  rintro e w5 ⟨rfl, h5⟩
  obtain ⟨_, _, _, _, _, b5⟩ := h5.cells
  have S5 := Lib.hid h5
  clear h5
  go_wp2_with fail
  refine (D5.out _ S5.out).mono ?_
  rintro e w6 ⟨rfl, h6⟩
  have S6 := Lib.hid h6
  clear h6
  go_wp2_with fail
  refine (D6.out _ S6.out).mono ?_
  rintro e w7 ⟨rfl, h7⟩
  obtain ⟨_, _, _, _, _, b5⟩ := h7.cells
  obtain ⟨k00, k01, k02, k03, k04, k05⟩ := HK.out _ _ h7
  have S7 := Lib.hid h7
  clear h7
  go_wp2_with fail
  refine (D7.out _ S7.out).mono ?_
  rintro e w8 ⟨rfl, h8⟩
  obtain ⟨_, _, _, b3, _, _⟩ := h8.cells
  obtain ⟨u7, uf, hu⟩ := HU.out _ h8
  have SU := Lib.hid hu
  clear h8 hu
  go_wp2
  go_region
  go_end0
  exact SU.out.post HE.out

end Go.Proofs.YtidokamjbglkbaaGreatDoor

