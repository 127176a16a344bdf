/- A piece: spelled out, and written. -/
import Derived.Test.YtlpbhfmhndhbkaaGreatDoorWNum
import Derived.Lib.BufferRead
namespace Go.Proofs.YtlpbhfmhndhbkaaGreatDoor
open Go.RowKit

theorem Tabs.up {B B' : Nat} {w : World} (h : Tabs B w) (hB : B ≤ B') : Tabs B' w := by
  obtain ⟨W, h1, h2, h3⟩ := h; exact ⟨W, h1, by omega, h3⟩

/-- A writer that begins. -/
def W0 (pl : Bool) : WR := ⟨[], pl, false, 0, [], 0⟩
theorem own_nil (w : World) (B size : Nat) (e : TypeId) : w.ownsRow B size e (.slice none 0 0) 0 [] := by
  exact ⟨by simp, .inl ⟨rfl, rfl⟩⟩
theorem Wr.fresh {B : Nat} {w : World} (ht : Tabs B w) (hB : B ≤ w.heap.size) (pl : Bool) :
    Wr w.heap.size w.heap.size (W0 pl) (w.alloc (.cells ((W0 pl).cs (.slice none 0 0) (.slice none 0 0) (.slice none 0 0) (.slice none 0 0)) tW)) := by
  refine ⟨.slice none 0 0, .slice none 0 0, .slice none 0 0, .slice none 0 0, [], [], ⟨Nat.le_refl _, by simp, (ht.up hB).same (fun k hk => Below.heap_alloc _ _ _ hk), heap_alloc_new w _, own_nil _ _ _ _, own_nil _ _ _ _, own_nil _ _ _ _, own_nil _ _ _ _, Nat.le_refl _, Nat.le_refl _, Nat.le_refl _⟩⟩
theorem Wr.below {B b : Nat} {r : WR} {w w' : World} (h : Wr B b r w) (hb : Below w.heap.size w w') : Wr B b r w' := by
  obtain ⟨vo, vt, vm, vb, ts, ms, h⟩ := h
  have hg : w.grownBy w' none := ⟨hb.os, hb.tape, hb.output, hb.size, fun k hk _ => hb.block k hk⟩
  exact (h.grownBy (e := tRu) hg (fun k e => by simp at e) (by decide) (by decide) (by decide) (by decide) (by decide)).wr
theorem Wr.tabs {B b : Nat} {r : WR} {w : World} (h : Wr B b r w) : Tabs B w := by
  obtain ⟨vo, vt, vm, vb, ts, ms, h⟩ := h; exact h.tab

/-- A part of the writer: with v it makes r to e r, and writes at most n bytes. -/
def Writes (f : FuncId) (v : Value) (P : Nat → World → Prop) (e : WR → WR) (n : Nat) : Prop :=
  ∀ (B b : Nat) (r : WR) (w : World), Wr B b r w → P B w → r.out.length + n ≤ 1000000000 → r.cnt + n ≤ 1000000000 →
    Calls Tryz.prog f #[.pointer (some ⟨b, 0, none⟩), v] w fun en w' => en = .returned (.tuple #[]) ∧ Wr B b (e r) w' ∧ KeptM MW B w w'
/-- What is asked of the memory holds on where blocks below B stay. -/
def Steady (P : Nat → World → Prop) : Prop := (∀ B w w', P B w → Below B w w' → P B w') ∧ (∀ B B' w, P B w → B ≤ B' → P B' w)

/-- The bytes that a value owns, as a text. -/
theorem conv_row {w : World} {B : Nat} {v : Value} {l : List UInt8} (h : w.ownsRow B tB 1 v l.length (bv l)) :
    (convert 41 9 v).run Tryz.prog w = .ok (.string (bs l)) w := by
  have hc := fun g (hg : v.ownBlock = some g) => h.cells (g := g) hg
  rcases h.2 with ⟨rfl, h0⟩ | ⟨g, cap, cur, rfl, _⟩
  · have : l = [] := List.eq_nil_of_length_eq_zero h0
    subst this
    exact Lib.run_convert_nil_bytes w _ _ 5 0 Tryz.underlying41 Tryz.underlying5 Tryz.underlying9
  · refine run_convert_bytes_back _ _ _ 5 _ cap l Tryz.underlying41 Tryz.underlying5 Tryz.underlying9 ?_
    intro j hj
    exact hc g rfl j _ (by simp [bv, hj])
theorem Wr.text {B b : Nat} {r : WR} {w : World} (h : Wr B b r w) : ∃ vo, w.cell? ⟨b, 0, none⟩ = some vo ∧ (convert 41 9 vo).run Tryz.prog w = .ok (.string (bs r.out)) w := by
  obtain ⟨vo, vt, vm, vb, ts, ms, h⟩ := h
  exact ⟨vo, h.c0, conv_row h.out⟩

set_option maxHeartbeats 2000000 in
set_option maxRecDepth 100000 in
theorem spelled_any (kd : Int) (c : UInt8) (nm : List UInt8) (m : Nat) (fl : Bool) (ks : Value) (P : Nat → World → Prop) (e : WR → WR) (n : Nat) (hP : Steady P)
    (hw : Writes 25 (.agg (rv kd c nm m fl ks)) P e n) (hn : n ≤ 1000000000)
    (B : Nat) (w : World) (ht : Tabs B w) (hB : B ≤ w.heap.size) (hp : P B w) :
    Calls Tryz.prog 26 #[.agg (rv kd c nm m fl ks)] w fun en w' => en = .returned (.string (bs (e (W0 true)).out)) ∧ Below w.heap.size w w' := by
  have b1 : Below w.heap.size w (w.alloc (.cells (rv kd c nm m fl ks) tRu)) := (Below.refl _ _).alloc (Nat.le_refl _) _
  have F := Lib.hid (Wr.fresh (ht.same fun k hk => (b1.mono hB).block k hk) (by simp; omega : B ≤ (w.alloc (.cells (rv kd c nm m fl ks) tRu)).heap.size) true)
  have p1 := Lib.hid (hP.2 _ (w.alloc (.cells (rv kd c nm m fl ks) tRu)).heap.size _ (hP.1 _ _ ((w.alloc (.cells (rv kd c nm m fl ks) tRu)).alloc (.cells ((W0 true).cs (.slice none 0 0) (.slice none 0 0) (.slice none 0 0) (.slice none 0 0)) tW)) hp ((b1.mono hB).alloc (by simp; omega) _)) (by simp; omega))
  have HW := Lib.hid hw
  have b2 := Lib.hid (b1.alloc (by simp) (.cells ((W0 true).cs (.slice none 0 0) (.slice none 0 0) (.slice none 0 0) (.slice none 0 0)) tW))
  clear b1 hw hp ht hB hP
  have e1 : (w.alloc (.cells (rv kd c nm m fl ks) tRu)).heap.size = w.heap.size + 1 := by simp
  rw [e1] at F p1
  clear e1
  go_enter Tryz.func26, Tryz.ntmps26
  go_wp2_with (go_at_call 25; refine (HW.out _ _ (W0 true) _ F.out p1.out (by simpa [W0] using hn) (by simpa [W0] using hn)).mono ?_)
  rintro en w1 ⟨rfl, h1, k1⟩
  have b3 := b2.out.trans ((k1.below (by simp)).mono (by simp))
  obtain ⟨vo, c0, cv⟩ := h1.text
  clear k1 h1
  go_wp2
  go_ret
  exact ⟨rfl, b3⟩

theorem infoS : (Tryz.prog.info? tStr).map (fun i => (i.zero, i.size, i.bytes)) = some (some (.string ⟨#[]⟩), 1, 16) := by kernel_rfl
theorem infoI : (Tryz.prog.info? tInt).map (fun i => (i.zero, i.size, i.bytes)) = some (some (.int .i64 0), 1, 8) := by kernel_rfl
theorem info_parts2 {t : TypeId} {z : Value} {s b : Nat} (h : (Tryz.prog.info? t).map (fun i => (i.zero, i.size, i.bytes)) = some (some z, s, b)) : ∃ i, Tryz.prog.info? t = some i ∧ i.zero = some z ∧ i.size = s ∧ i.bytes = b := by
  obtain ⟨i, hi, he⟩ := Option.map_eq_some_iff.1 h
  simp only [Prod.mk.injEq] at he
  exact ⟨i, hi, he.1, he.2.1, he.2.2⟩
/-- One cell, new. -/
theorem one_new (w : World) (v : Value) (T : TypeId) : ∀ (j : Nat) (u : Value), ([v] : List Value)[j]? = some u → (w.alloc (.cells #[v] T)).cell? ((⟨w.heap.size, 0, none⟩ : Addr).add j) = some u := by
  intro j u hj
  match j, hj with
  | 0, hj => simp at hj; subst hj; simp [Addr.add]

/-- No choices: it reads the next one as false. -/
theorem choose_any (B b : Nat) (r : WR) (w : World) (h : Wr B b r w) :
    Calls Tryz.prog 27 #[.pointer (some ⟨b, 0, none⟩)] w fun en w' => en = .returned (.bool false) ∧ w' = w := by
  obtain ⟨vo, vt, vm, vb, ts, ms, h⟩ := h
  have c3 := h.c3
  clear h
  go_enter Tryz.func27, Tryz.ntmps27
  go_wp2
  go_ret
  exact ⟨rfl, rfl⟩

/-- A piece is counted. -/
def counted (e : WR → WR) (r : WR) : WR := if r.plain then e r else { e r with cnt := (e r).cnt + 1 }
theorem counted_true (e : WR → WR) {r : WR} (h : r.plain = true) : counted e r = e r := by simp [counted, h]
theorem counted_false (e : WR → WR) {r : WR} (h : r.plain = false) : counted e r = { e r with cnt := (e r).cnt + 1 } := by simp [counted, h]

set_option maxHeartbeats 4000000 in
set_option maxRecDepth 100000 in
theorem piece_any (kd : Int) (c : UInt8) (nm : List UInt8) (m : Nat) (fl : Bool) (ks : Value) (P : Nat → World → Prop) (e : WR → WR) (n : Nat) (hP : Steady P)
    (hw : Writes 25 (.agg (rv kd c nm m fl ks)) P e n) (hn : n ≤ 1000000000) (he : ∀ r, (e r).out.length ≤ r.out.length + n ∧ (e r).cnt + 1 ≤ r.cnt + n) :
    Writes 14 (.agg (rv kd c nm m fl ks)) P (counted e) n := by
  intro B b r w h hp hl hl2
  have HS := Lib.hid (fun B w => spelled_any kd c nm m fl ks P e n hP hw hn B w)
  have HW := Lib.hid hw
  have HP := Lib.hid hP
  cases hpl : r.plain with
  | true =>
    have b1 : Below w.heap.size w (w.alloc (.cells (rv kd c nm m fl ks) tRu)) := (Below.refl _ _).alloc (Nat.le_refl _) _
    have c5 : (w.alloc (.cells (rv kd c nm m fl ks) tRu)).cell? ⟨b, 5, none⟩ = some (.bool true) := by
      obtain ⟨vo, vt, vm, vb, ts, ms, h0⟩ := h.below b1
      have := h0.c5
      rwa [hpl] at this
    have p1 := Lib.hid (hP.1 _ _ _ hp (b1.mono h.hB))
    have H1 := Lib.hid (h.below b1)
    have K1 := Lib.hid ((KeptM.refl (M := MW) (B := B) w).alloc (.cells (rv kd c nm m fl ks) tRu))
    clear h b1 hP hw hp
    go_enter Tryz.func14, Tryz.ntmps14
    go_wp2_with (go_at_call 25; refine (HW.out B b r _ H1.out p1.out hl hl2).mono ?_)
    rintro en w2 ⟨rfl, h3, k3⟩
    have K3 := K1.out.trans k3
    clear k3
    go_wp2
    refine bodyPost_ret (results_none rfl _ _ _) rfl ?_
    exact ⟨rfl, h3.cast (counted_true e hpl).symm, K3⟩
  | false =>
    have h0 := h
    obtain ⟨vo, vt, vm, vb, ts, ms, h0⟩ := h0
    have c5 := (h0.alloc (.cells (rv kd c nm m fl ks) tRu)).c5
    rw [hpl] at c5
    have T0 := h0.tab
    have hBw := h0.hw
    have b1 : Below w.heap.size w (w.alloc (.cells (rv kd c nm m fl ks) tRu)) := (Below.refl _ _).alloc (Nat.le_refl _) _
    have p1 := Lib.hid (hP.1 _ _ _ hp (b1.mono hBw))
    have t1 := Lib.hid (T0.same fun k hk => (b1.mono hBw).block k hk)
    have H1 := Lib.hid (h.below b1)
    have K1 := Lib.hid ((KeptM.refl (M := MW) (B := B) w).alloc (.cells (rv kd c nm m fl ks) tRu))
    have R1 := Lib.hid (tree_new w (rv kd c nm m fl ks))
    have B1 := Lib.hid (show B ≤ (w.alloc (.cells (rv kd c nm m fl ks) tRu)).heap.size by simp; omega)
    clear h h0 T0 b1 hP hw hp
    go_enter Tryz.func14, Tryz.ntmps14
    go_wp2_with (go_at_call 26; refine (HS.out B _ t1.out B1.out p1.out).mono ?_)
    rintro en w1 ⟨rfl, b1⟩
    have P1 := Lib.hid (HP.out.1 _ _ _ p1.out (b1.mono B1.out))
    have H2 := H1.out.below b1
    have K2 := Lib.hid (K1.out.trans (KeptM.of_below b1))
    have R2 : w1.heap[w.heap.size]? = some (.cells (rv kd c nm m fl ks) tRu (0, 0)) := (b1.block _ (by simp)).trans R1.out
    obtain ⟨q, hq⟩ : ∃ q, q = (e (W0 true)).out := ⟨_, rfl⟩
    rw [← hq]
    have HQ := Lib.hid hq
    clear b1 H1 K1 R1 p1 t1 B1 HS hq
    have H3 := Lib.hid H2
    obtain ⟨vo', vt', vm', vb', ts', ms', h2⟩ := H2
    have c1 := h2.c1
    have tx := h2.texts
    obtain ⟨ao, cap, rfl, hcell⟩ : ∃ ao cap, vt' = .slice ao ts'.length cap ∧ ∀ k (hk : k < ts'.length), ∃ a : Addr, ao = some a ∧ w1.cell? (a.add k) = some (.string ts'[k]) := by
      rcases tx.2 with ⟨rfl, h0⟩ | ⟨g, cap, cur, rfl, _⟩
      · exact ⟨none, 0, by rw [h0], fun k hk => by omega⟩
      · exact ⟨some ⟨g, 0, none⟩, cap, rfl, fun k hk => ⟨_, rfl, tx.cells (g := g) rfl k _ (by simp [hk])⟩⟩
    have HC := Lib.hid hcell
    have h2' := h2
    have hts : ts'.length ≤ 1000000000 := by have := h2.nt; omega
    clear hcell tx h2
    go_wp2_with fail
    go_loop [5, 6, 22] (fun _ _ i => ∃ k : Nat, k ≤ ts'.length ∧ i = .int .i64 k) (fun _ _ i => ts'.length - (intOf i).toNat)
    case atStart => exact ⟨0, Nat.zero_le _, rfl⟩
    case round =>
      obtain ⟨k, hk, rfl⟩ := hrel
      by_cases hlt : k < ts'.length
      · obtain ⟨a, rfl, hc⟩ := HC.out k hlt
        go_wp2_with (first
          | (go_at_call 27; refine (choose_any B b r _ H3.out).mono ?_; rintro en w' ⟨rfl, rfl⟩))
        all_goals
          go_round
          case rel => exact ⟨k + 1, by omega, by go_num⟩
          case measure => simp [intOf]; omega
      · have hkn : k = ts'.length := by omega
        subst hkn
        have c0 := h2'.c0
        have ho := h2'.out
        obtain ⟨bo, co, rfl⟩ : ∃ bo co, vo' = .slice bo r.out.length co := by
          rcases ho.2 with ⟨hv, h0⟩ | ⟨g, cap, cur, hv, _⟩
          · exact ⟨none, 0, by rw [hv, h0]⟩
          · exact ⟨_, _, hv⟩
        clear ho h2' HC c1
        have a0 : ∀ j (hj : j < 6), w1.cell? ⟨w.heap.size, j, none⟩ = (rv kd c nm m fl ks)[j]? := fun j hj => by rw [cellAt R2]
        have a00 := a0 0 (by decide)
        have a01 := a0 1 (by decide)
        have a02 := a0 2 (by decide)
        have a03 := a0 3 (by decide)
        have a04 := a0 4 (by decide)
        have a05 := a0 5 (by decide)
        simp at a00 a01 a02 a03 a04 a05
        clear a0
        go_wp2_with (go_at_call 25; refine (HW.out B b r _ H3.out P1.out hl hl2).mono ?_)
        rintro en w2 ⟨rfl, h3, k3⟩
        intro h3 k3
        obtain ⟨is, his, hs0, hs1, hs2⟩ := info_parts2 infoS
        obtain ⟨ii, hii, hi0, hi1, hi2⟩ := info_parts2 infoI
        obtain ⟨vo2, vt2, vm2, vb2, ts2, ms2, g3⟩ := h3
        have d1 := g3.c1
        have G4 := g3.more.alloc (.cells #[.string (bs q)] tStr)
        have K3 := Lib.hid ((K2.out.trans k3).alloc (.cells #[.string (bs q)] tStr))
        have own4 := G4.texts
        have p1 := Lib.hid (one_new w2 (.string (bs q)) tStr)
        have hlen : ts2.length + 1 ≤ 1000000000 := by have := g3.nt; have := (he r).2; omega
        have hlen2 : ms2.length + 1 ≤ 1000000000 := by have := g3.nm; have := (he r).2; omega
        have hlen3 : ms2.length + 1 ≤ (e r).cnt + 1 := by have := g3.nm; omega
        have hlen4 : ts2.length + 1 ≤ (e r).cnt + 1 := by have := g3.nt; omega
        have p3 : ts2.length + 1 ≤ maxLen := by unfold maxLen; omega
        have p4 : (ts2.length + 1) * 16 ≤ 140737488355328 := by omega
        have p5 := G4.hw
        have FIN : Hid (∀ (w5 : World) (v' : Value), (w2.alloc (.cells #[.string (bs q)] tStr)).grownBy w5 vt2.ownBlock → w5.ownsRow B tStr 1 v' (ts2.length + 1) (ts2.map Value.string ++ [.string (bs q)]) →
            w5.heap[b]? = some (.cells (({ e r with cnt := (e r).cnt + 1 } : WR).cs vo2 vt2 vm2 vb2) tW (0, 0)) ∧ WrV B b { e r with cnt := (e r).cnt + 1 } vo2 v' vm2 vb2 (ts2 ++ [bs q]) ms2 (w5.setCell ⟨b, 1, none⟩ v') ∧ KeptM MW B w (w5.setCell ⟨b, 1, none⟩ v')) := by
          intro w5 v' hg hown
          have e1 : (ts2 ++ [bs q]).length = ts2.length + 1 := by simp
          obtain ⟨hb, h2⟩ := G4.setTexts (vt' := v') (ts' := ts2 ++ [bs q]) hg (by rw [e1]; simpa using hown) (by rw [e1]; exact hlen4)
          exact ⟨hb, h2, (K3.out.grown hg (t := tStr) (by decide) (fun k e => rowKind G4.texts k e)).setCell (p := ⟨b, 1, none⟩) G4.hB (t := tW) (by decide) (by rw [hb, kindOf]) _⟩
        clear g3 G4 k3
        go_wp2_with (at_builtin; refine wpList_append_own _ rfl _ _ 42 rfl B tStr is (.string ⟨#[]⟩) 1 16 Tryz.underlying42 his hs0 hs1 hs2 rfl (by decide) _ _ _ rfl own4 ⟨w2.heap.size, 0, none⟩ 1 1 [.string (bs q)] rfl rfl p1.out (by intro u hu; simp at hu; subst hu; rfl) p3 p4 p5 ?_)
        intro v5 w5 hown5 hg5 _
        obtain ⟨hb5, R5, K5⟩ := (FIN.out : ∀ _ _, _ → _ → _) w5 v5 hg5 hown5
        have d1' : w5.cell? ⟨b, 1, none⟩ = some vt2 := by rw [cellAt hb5]; rfl
        have g1' : w5.frozen? ⟨b, 1, none⟩ = false := Lib.frozen_of_heap hb5 1
        obtain ⟨ao5, n5, cap5, rfl⟩ : ∃ ao n cap, v5 = .slice ao n cap := by
          rcases hown5.2 with ⟨hv, _⟩ | ⟨g, cap, cur, hv, _⟩
          · exact ⟨_, _, _, hv⟩
          · exact ⟨_, _, _, hv⟩
        have d2 := R5.c2
        have G6 := R5.alloc (.cells #[.int .i64 r.out.length] tInt)
        have K6 := Lib.hid (K5.alloc (.cells #[.int .i64 r.out.length] tInt))
        have own6 := G6.marks
        have p6 := Lib.hid (one_new (w5.setCell ⟨b, 1, none⟩ (.slice ao5 n5 cap5)) (.int .i64 r.out.length) tInt)
        have p63 : ms2.length + 1 ≤ maxLen := by unfold maxLen; omega
        have p64 : (ms2.length + 1) * 8 ≤ 140737488355328 := by omega
        have p65 := G6.hw
        have hsz : (w5.setCell ⟨b, 1, none⟩ (.slice ao5 n5 cap5)).heap.size = w5.heap.size := by simp [World.setCell]
        rw [hsz] at p6
        have FIN6 : Hid (∀ (w7 : World) (v' : Value), ((w5.setCell ⟨b, 1, none⟩ (.slice ao5 n5 cap5)).alloc (.cells #[.int .i64 r.out.length] tInt)).grownBy w7 vm2.ownBlock → w7.ownsRow B tInt 1 v' (ms2.length + 1) (ms2.map (Value.int .i64) ++ [.int .i64 r.out.length]) →
            w7.heap[b]? = some (.cells (({ e r with cnt := (e r).cnt + 1 } : WR).cs vo2 (.slice ao5 n5 cap5) vm2 vb2) tW (0, 0)) ∧ Wr B b { e r with cnt := (e r).cnt + 1 } (w7.setCell ⟨b, 2, none⟩ v') ∧ KeptM MW B w (w7.setCell ⟨b, 2, none⟩ v')) := by
          intro w7 v' hg hown
          have e1 : (ms2 ++ [(r.out.length : Int)]).length = ms2.length + 1 := by simp
          obtain ⟨hb, h2⟩ := G6.setMarks (vm' := v') (ms' := ms2 ++ [(r.out.length : Int)]) hg (by rw [e1]; simpa using hown) (by rw [e1]; exact hlen3)
          exact ⟨hb, h2.wr, (K6.out.grown hg (t := tInt) (by decide) (fun k e => rowKind G6.marks k e)).setCell (p := ⟨b, 2, none⟩) G6.hB (t := tW) (by decide) (by rw [hb, kindOf]) _⟩
        clear FIN R5 K5 G6 hown5 hg5 hb5 K3 own4 p1 K6
        go_wp2_with (at_builtin; refine wpList_append_own _ rfl _ _ 40 rfl B tInt ii (.int .i64 0) 1 8 Tryz.underlying40 hii hi0 hi1 hi2 rfl (by decide) _ _ _ rfl own6 ⟨w5.heap.size, 0, none⟩ 1 1 [.int .i64 r.out.length] rfl rfl p6.out (by intro u hu; simp at hu; subst hu; rfl) p63 p64 p65 ?_)
        intro v7 w7 hown7 hg7 _
        obtain ⟨hb7, R7, K7⟩ := (FIN6.out : ∀ _ _, _ → _ → _) w7 v7 hg7 hown7
        have d2' : w7.cell? ⟨b, 2, none⟩ = some vm2 := by rw [cellAt hb7]; rfl
        have g2' : w7.frozen? ⟨b, 2, none⟩ = false := Lib.frozen_of_heap hb7 2
        obtain ⟨ao7, n7, cap7, rfl⟩ : ∃ ao n cap, v7 = .slice ao n cap := by
          rcases hown7.2 with ⟨hv, _⟩ | ⟨g, cap, cur, hv, _⟩
          · exact ⟨_, _, _, hv⟩
          · exact ⟨_, _, _, hv⟩
        clear FIN6 hown7 hg7 hb7 own6 p6
        go_wp2
        refine bodyPost_end (results_none rfl _ _ _) rfl ?_
        exact ⟨rfl, R7.cast (counted_false e hpl).symm, K7⟩
end Go.Proofs.YtlpbhfmhndhbkaaGreatDoor
