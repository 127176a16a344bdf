/- rustABI. -/
import Derived.Test.YtidokamjbglkbaaGreatDoorY25
import Derived.Test.YtidokamjbglkbaaGreatDoorY22
import Derived.Test.YtidokamjbglkbaaGreatDoorY23
import Derived.Test.YtidokamjbglkbaaGreatDoorY05
import Derived.Lib.ConvBytes
import Derived.Deep.RegionLaw
import Derived.BigRegion
import Derived.Deep.AppendLies
namespace Go.Proofs.YtidokamjbglkbaaGreatDoor
open Go.RowKit

/-- Bytes in a row that was made out of a text: N cells, those of the text in front. -/
def RowB (w : World) (k N : Nat) (l : List UInt8) : Prop := ∃ C, w.heap[k]? = some (.cells C tB (N, N + 1)) ∧ C.size = N ∧ l.length ≤ N ∧ ∀ j (h : j < l.length), C[j]? = some (.int .u8 (l[j].toNat : Nat))
theorem RowB.cell {w : World} {k N : Nat} {l : List UInt8} (h : RowB w k N l) (j : Nat) (hj : j < l.length) : w.cell? ⟨k, j, none⟩ = some (.int .u8 (l[j].toNat : Nat)) := by
  obtain ⟨C, h1, _, _, h4⟩ := h
  rw [cellAt h1, h4 j hj]
theorem RowB.fz {w : World} {k N : Nat} {l : List UInt8} (h : RowB w k N l) (j : Nat) (hj : j < l.length) : w.frozen? ⟨k, j, none⟩ = false := by
  obtain ⟨C, h1, h2, h3, h4⟩ := h
  simp [World.frozen?, h1]
  omega
theorem RowB.set {w : World} {k N : Nat} {l : List UInt8} (h : RowB w k N l) (j : Nat) (c : UInt8) : RowB (w.setCell ⟨k, j, none⟩ (.int .u8 (c.toNat : Nat))) k N (l.set j c) := by
  obtain ⟨C, h1, h2, h3, h4⟩ := h
  refine ⟨_, setCell_heap h1 j _, by simpa using h2, by simpa using h3, fun i hi => ?_⟩
  rw [List.length_set] at hi
  rw [Array.getElem?_setIfInBounds]
  by_cases e : j = i
  · subst e
    simp; omega
  · rw [if_neg e, h4 i hi]
    simp [e]
theorem RowB.new (w : World) (l : List UInt8) : RowB (Lib.bytesWorld w tB (bs l)) w.heap.size (Lib.bytesCells w tB (bs l)).size l := by
  refine ⟨_, Lib.bytesWorld_at_new w tB (bs l), rfl, by simp [Lib.bytesCells], fun j hj => ?_⟩
  have hj' : j < (bs l).size := by simpa using hj
  have := Lib.bytesWorld_cell w tB (bs l) j hj'
  rw [cellAt (Lib.bytesWorld_at_new w tB (bs l))] at this
  rw [this]
  simp [hj]
theorem RowB.conv {w : World} {k N cap : Nat} {l : List UInt8} (h : RowB w k N l) : (convert 39 9 (.slice (some ⟨k, 0, none⟩) l.length cap)).run Tryz.prog w = .ok (.string (bs l)) w := by
  refine run_convert_bytes_back _ _ _ 5 _ cap l Tryz.underlying39 Tryz.underlying5 Tryz.underlying9 ?_
  intro j hj
  rw [Go.WideShapes.add_plain]
  simpa using h.cell j hj

/-- - is written as _. -/
def dash (c : UInt8) : UInt8 := if c = 45 then 95 else c
theorem bytesWorld_below (w : World) (s : ByteArray) : Below w.heap.size w (Lib.bytesWorld w tB s) :=
  ⟨by unfold Lib.bytesWorld World.freeze; rw [if_neg (by decide)]; rfl, by unfold Lib.bytesWorld World.freeze; rw [if_neg (by decide)]; rfl, by unfold Lib.bytesWorld World.freeze; rw [if_neg (by decide)]; rfl, by rw [Lib.bytesWorld_size]; omega, fun k hk => Lib.bytesWorld_at_old w tB s k hk⟩

set_option maxHeartbeats 4000000 in
set_option maxRecDepth 100000 in
theorem rustABI_any (l : List UInt8) (hl : abiB l = true) (h0 : l ≠ []) (hC : l ≠ [67]) (B : Nat) (w : World) (hT : Tabs B w) (hB : B ≤ w.heap.size) :
    Calls Tryz.prog 66 #[.string (bs l)] w fun e w' => e = .returned (.string (bs (idW (l.map dash)))) ∧ Below w.heap.size w w' := by
  obtain ⟨hnb, hlen⟩ := abi_map hl h0 hC
  have h67 : ((bs l).toList == [67]) = false := by rw [ByteArray.toList_eq, beq_eq_false_iff_ne]; exact hC
  have hcv := Lib.run_convert_string_bytes (P := Tryz.prog) w 9 39 tB (bs l) Tryz.underlying9 Tryz.underlying39 Tryz.underlying5
  have hrow := RowB.new w l
  have hbw := bytesWorld_below w (bs l)
  have hsz := Lib.bytesWorld_size w tB (bs l)
  rw [bs_size] at hcv
  generalize Lib.bytesWorld w tB (bs l) = W1 at hcv hrow hbw hsz
  generalize (Lib.bytesCells w tB (bs l)).size = N at hrow
  generalize grownCap w l.length 0 tB = cap at hcv
  have HR := Lib.hid hrow
  have HBW := Lib.hid hbw
  have HW := Lib.hid (fun w' (hT : Tabs B w') (hB : B ≤ w'.heap.size) => written_any (l.map dash) hnb B w' hT hB)
  have HT := Lib.hid hT
  have HB := Lib.hid hB
  clear hrow hbw hl hnb hT h0 hC hB
  go_enter Tryz.func66, Tryz.ntmps66
  go_wp2_with fail
  go_loopg [4, 5, 12] l.length (fun n _ _ i wr => ∃ j : Nat, n = l.length - j ∧ j ≤ l.length ∧ i = .int .i64 j ∧ RowB wr w.heap.size N ((l.take j).map dash ++ l.drop j) ∧ Below w.heap.size w wr)
  case atStart => exact ⟨0, by omega, Nat.zero_le _, rfl, by simpa using HR.out, HBW.out⟩
  case round =>
    obtain ⟨j, rfl, hj, rfl, hr, hb⟩ := hrel
    have hlenR : ((l.take j).map dash ++ l.drop j).length = l.length := by simp; omega
    by_cases hlt : j < l.length
    · have hcell := hr.cell j (by omega)
      have hfz := hr.fz j (by omega)
      have hget : ((l.take j).map dash ++ l.drop j)[j]'(by omega) = l[j] := by
        rw [List.getElem_append_right (by simp; omega)]
        simp [Nat.min_eq_left hj]
      rw [hget] at hcell
      have hnext : (l.take (j + 1)).map dash ++ l.drop (j + 1) = ((l.take j).map dash ++ l.drop j).set j (dash l[j]) := by
        rw [List.take_succ_eq_append_getElem hlt, List.map_append, List.set_append_right _ _ (by simp; omega)]
        simp [Nat.min_eq_left hj]
        rw [List.drop_eq_getElem_cons hlt]; rfl
      have hset := hr.set j (dash l[j])
      rw [← hnext] at hset
      obtain ⟨c, hc⟩ : ∃ c, l[j] = c := ⟨_, rfl⟩
      rw [hc] at hcell hset
      by_cases h45 : c = 45
      · subst h45
        have e1 : dash 45 = 95 := rfl
        rw [e1] at hset
        have HSET := Lib.hid hset
        have HB2 := Lib.hid (hb.setCell (p := ⟨w.heap.size, j, none⟩) (Nat.le_refl _) (.int .u8 ((95 : UInt8).toNat : Nat)))
        clear hset hnext hget hr hb hc
        go_wp2
        go_roundg (l.length - (j + 1))
        case measure => omega
        case rel => exact ⟨j + 1, rfl, by omega, by go_num, HSET.out, HB2.out⟩
      · have f1 : ((c.toNat : Int) == 45) = false := by rw [beq_eq_false_iff_ne]; intro e; exact h45 (UInt8.toNat_inj.1 (by show c.toNat = 45; omega))
        have e1 : dash c = c := by simp [dash, h45]
        have hre : (l.take (j + 1)).map dash ++ l.drop (j + 1) = (l.take j).map dash ++ l.drop j := by
          rw [hnext, hc, e1, ← hc, ← hget, List.set_getElem_self]
        have HRR := Lib.hid (show RowB wr w.heap.size N ((l.take (j + 1)).map dash ++ l.drop (j + 1)) by rw [hre]; exact hr)
        have HB2 := Lib.hid hb
        clear hset hnext hget hr hb hc e1 hre h45
        go_wp2
        go_roundg (l.length - (j + 1))
        case measure => omega
        case rel => exact ⟨j + 1, rfl, by omega, by go_num, HRR.out, HB2.out⟩
    · have hjl : j = l.length := by omega
      subst hjl
      rw [List.take_length, List.drop_length, List.append_nil] at hr
      have hcb := hr.conv (cap := cap)
      rw [List.length_map] at hcb
      have hT1 := HT.out.same fun k hk => hb.block k (by have := HB.out; omega)
      have HWR := Lib.hid (HW.out _ hT1 (by have := HB.out; have := hb.size; omega))
      have HB2 := Lib.hid hb
      clear hr hb hT1 hlenR
      go_wp2_with (go_at_call 67; refine HWR.out.mono ?_; rintro e w3 ⟨rfl, b3⟩)
      go_ret
      exact ⟨rfl, HB2.out.trans (b3.mono HB2.out.size)⟩
end Go.Proofs.YtidokamjbglkbaaGreatDoor

/- name, bind. -/
namespace Go.Proofs.YtidokamjbglkbaaGreatDoor
open Go.RowKit

theorem WrV.setBds {B b : Nat} {r : WR} {vo vt vm vb : Value} {ts : List ByteArray} {ms : List Int} {w w' : World} {vb' : Value} {l' : List (Nat × Nat)} (h : WrV B b r vo vt vm vb ts ms w) (hg : w.grownBy w' vb.ownBlock) (hown : w'.ownsRow B tBd 2 vb' l'.length (bdv l')) (hl : l'.length ≤ r.out.length) :
    w'.heap[b]? = some (.cells (r.cs vo vt vm vb) tW (0, 0)) ∧ WrV B b { r with bounds := l' } vo vt vm vb' ts ms (w'.setCell ⟨b, 8, none⟩ vb') := by
  have hr : ∀ k, vb.ownBlock = some k → kindOf w.heap[k]? = some tBd := fun k e => (rowKind h.bds k e).2
  have hb : w'.heap[b]? = some (.cells (r.cs vo vt vm vb) tW (0, 0)) := by
    rw [hg.block b h.lt (fun e => by have := hr b e.symm; rw [h.kind] at this; exact absurd (Option.some.inj this) (by decide))]
    exact h.heap
  have hg2 := grown_setCell w' ⟨b, 8, none⟩ vb'
  have hr2 : ∀ k, some b = some k → kindOf w'.heap[k]? = some tW := fun k e => by cases e; rw [hb]; rfl
  refine ⟨hb, h.hB, by have := hg.size; have := h.hw; simp [World.setCell]; omega, h.tab.same (fun k hk => ?_), by rw [setCell_heap hb]; rfl, rowKept (rowKept h.out hg (by decide) hr) hg2 (by decide) hr2,
    rowKept (rowKept h.texts hg (by decide) hr) hg2 (by decide) hr2, rowKept (rowKept h.marks hg (by decide) hr) hg2 (by decide) hr2, rowKept hown hg2 (by decide) hr2, h.nt, h.nm, hl, h.bd⟩
  rw [Below.heap_setCell _ _ _ _ (by have := h.hB; simp; omega)]
  exact hg.block k (by have := h.hw; omega) (fun e => by have := (rowKind h.bds k e.symm).1; omega)

/-- What name, bind make of a writer. -/
def WR.name (r : WR) (nm : List UInt8) : WR := if nm = [] then { r.put [48] with empty := true } else r.put (idW nm)
def WR.bind (r : WR) (n : Nat) : WR := { r.put (binder n) with bound := r.bound + n, bounds := r.bounds ++ (if n = 0 then [] else [((r.put (binder n)).out.length, r.bound + n)]) }
theorem WR.put_bound (r : WR) (l : List UInt8) : (r.put l).bound = r.bound ∧ (r.put l).bounds = r.bounds ∧ (r.put l).plain = r.plain ∧ (r.put l).cnt = r.cnt := by
  unfold WR.put; split <;> exact ⟨rfl, rfl, rfl, rfl⟩

set_option maxHeartbeats 2000000 in
set_option maxRecDepth 100000 in
theorem name_wr (B b : Nat) (r : WR) (nm : List UInt8) (hm : nameB nm = true ∨ nm = []) (w : World) (h : Wr B b r w) (hl : r.out.length + 1100 ≤ 1000000000) :
    Calls Tryz.prog 62 #[.pointer (some ⟨b, 0, none⟩), .string (bs nm)] w fun e w' => e = .returned (.tuple #[]) ∧ Wr B b (r.name nm) w' ∧ KeptM MW B w w' := by
  rcases hm with hm | rfl
  · have hne := nameB_ne hm
    have ht0 : (bs nm).toList.isEmpty = false := by rw [ByteArray.toList_eq]; cases nm with | nil => exact absurd rfl hne | cons a b => rfl
    have e1 : r.name nm = r.put (idW nm) := by unfold WR.name; rw [if_neg hne]
    rw [e1]
    have hwl := idW_len hm
    have HW := Lib.hid (written_any nm hm B w h.tabs h.hB)
    have HP := Lib.hid (fun w' (h : Wr B b r w') => put_any B b r (idW nm) w' h (by omega))
    have H := Lib.hid h
    clear h e1 hne hm
    go_enter Tryz.func62, Tryz.ntmps62
    go_wp2_with (go_at_call 67; refine HW.out.mono ?_; rintro e w1 ⟨rfl, b1⟩)
    refine (HP.out _ (H.out.below b1)).mono ?_
    rintro e w2 ⟨rfl, h2, k2⟩
    have k3 := (KeptM.of_below (M := MW) (B := B) b1).trans k2
    clear k2 b1
    go_wp2
    go_end0
    exact ⟨rfl, h2, k3⟩
  · have ht0 : (bs []).toList.isEmpty = true := by rw [ByteArray.toList_eq]; rfl
    have e1 : r.name [] = { r.put [48] with empty := true } := by unfold WR.name; rw [if_pos rfl]
    rw [e1]
    have HP := Lib.hid (put_any B b r [48] w h (by simp; omega))
    have H := Lib.hid h
    clear h e1
    go_enter Tryz.func62, Tryz.ntmps62
    go_wp2_with fail
    refine (HP.out).mono ?_
    rintro e w2 ⟨rfl, ⟨vo, vt, vm, vb, ts, ms, h2⟩, k2⟩
    have c6 := h2.c6
    have g6 := h2.fz 6
    have h3 := (h2.setEmpty true).wr
    have k3 := h2.keeps k2 6 (.bool true)
    have H3 := Lib.hid h3
    have K3 := Lib.hid k3
    clear h2 k2 h3 k3
    go_wp2
    refine bodyPost_ret (results_none rfl _ _ _) rfl ?_
    exact ⟨rfl, H3.out, K3.out⟩

theorem infoBd : (Tryz.prog.info? tBd).map (fun i => (i.zero, i.size, i.bytes)) = some (some (.agg #[.int .i64 0, .int .i64 0]), 2, 16) := by kernel_rfl

set_option maxHeartbeats 4000000 in
set_option maxRecDepth 100000 in
theorem bind_wr (B b : Nat) (r : WR) (n : Nat) (hn : n ≤ 20) (w : World) (h : Wr B b r w) (hl : r.out.length + 100 ≤ 1000000000) :
    Calls Tryz.prog 65 #[.pointer (some ⟨b, 0, none⟩), .int .u64 n] w fun e w' => e = .returned (.tuple #[]) ∧ Wr B b (r.bind n) w' ∧ KeptM MW B w w' := by
  have HB := Lib.hid (fun w => binder_text n (by omega) w)
  have hbl : (binder n).length ≤ 14 := (bb_binder n hn).2
  have HP := Lib.hid (fun w' (h : Wr B b r w') => put_any B b r (binder n) w' h (by omega))
  have H := Lib.hid h
  have hput := WR.put_bound r (binder n)
  have hgrow : n ≠ 0 → r.out.length + 1 ≤ (r.put (binder n)).out.length := by
    intro h0
    have hbn : binder n ≠ [] := by unfold binder; rw [if_neg h0]; simp
    have : 1 ≤ (binder n).length := by cases hb : binder n with | nil => exact absurd hb hbn | cons a l => simp
    unfold WR.put
    rw [if_neg hbn]
    simp; omega
  have hle : (r.put (binder n)).out.length ≤ r.out.length + 15 := by
    unfold WR.put
    split
    · omega
    · simp only [List.length_append, sepOf]
      split <;> simp <;> omega
  have hmono : r.out.length ≤ (r.put (binder n)).out.length := by unfold WR.put; split <;> simp <;> omega
  obtain ⟨r1, hr1⟩ : ∃ r1, r.put (binder n) = r1 := ⟨_, rfl⟩
  have hbind : r.bind n = { r1 with bound := r1.bound + n, bounds := r1.bounds ++ (if n = 0 then [] else [(r1.out.length, r1.bound + n)]) } := by unfold WR.bind; rw [hr1] at hput ⊢; rw [hput.1, hput.2.1]
  rw [hbind]
  rw [hr1] at HP hput hgrow hle hmono
  have HPUT := Lib.hid hput
  clear h hr1 hbind hput
  go_enter Tryz.func65, Tryz.ntmps65
  go_wp2_with (go_at_call 78; refine (HB.out _).mono ?_; rintro e w1 ⟨rfl, q, rfl⟩)
  refine (HP.out _ (H.out.drewN q)).mono ?_
  rintro e w2 ⟨rfl, ⟨vo, vt, vm, vb, ts, ms, h2⟩, k2⟩
  have hbd : r1.bound + n ≤ 20 * r1.out.length := by
    obtain ⟨_, _, _, _, _, _, h0⟩ := H.out
    have := h0.bd
    have e := HPUT.out.1
    by_cases hz : n = 0
    · omega
    · have := hgrow hz; omega
  have c7 := h2.c7
  have g7 := h2.fz 7
  have hnw : r1.bound + n ≤ 9223372036854775807 := by omega
  have h3 := h2.setBound (r1.bound + n) rfl hbd
  have K3 := Lib.hid (h2.keeps (((KeptM.refl (M := MW) (B := B) w).drewN q).trans k2) 7 (.int .i64 ((r1.bound + n : Nat) : Int)))
  have hsz3 : (w2.setCell ⟨b, 7, none⟩ (.int .i64 ((r1.bound + n : Nat) : Int))).heap.size = w2.heap.size := by simp [World.setCell]
  clear k2 h2
  have en : ((r1.bound + n : Nat) : Int) = (r1.bound : Int) + (n : Int) := by simp
  rw [en] at h3 K3 hsz3
  by_cases hz : n = 0
  · subst hz
    have e0 : (r1.bound : Int) + ((0 : Nat) : Int) = (r1.bound : Int) := by simp
    rw [e0] at h3 K3
    have hf := Lib.hid h3.wr
    clear h3
    go_wp2
    refine bodyPost_end (results_none rfl _ _ _) rfl ?_
    exact ⟨rfl, hf.out, K3.out⟩
  · have hz' : decide ((0 : Int) < (n : Int)) = true := by simp; omega
    have d8 := h3.c8
    have d0 := h3.c0
    have d7 := h3.c7
    obtain ⟨bo, co, rfl⟩ : ∃ bo co, vo = .slice bo r1.out.length co := by
      rcases h3.out.2 with ⟨hv, h0⟩ | ⟨g, cap, cur, hv, _⟩
      · exact ⟨none, 0, by rw [hv]; simp at h0; rw [h0]; rfl⟩
      · exact ⟨_, _, hv⟩
    obtain ⟨i0, hi, hz0, hz1, hz2⟩ := info_parts2 infoBd
    have h4 := h3.alloc (.cells #[.int .i64 (r1.out.length : Int), .int .i64 ((r1.bound : Int) + (n : Int))] tBd)
    go_wp2
    generalize hW3 : w2.setCell ⟨b, 7, none⟩ (.int .i64 ((r1.bound : Int) + (n : Int))) = W3 at d8 d0 d7 h3 h4 hsz3 K3 ⊢
    rw [en] at d7
    have own4 := (h4.drewN 1).bds
    have d84 := h4.c8
    have hnb := (h4.drewN 1).nb
    have K4 := Lib.hid ((K3.out.alloc (.cells #[.int .i64 (r1.out.length : Int), .int .i64 ((r1.bound : Int) + (n : Int))] tBd)).drewN 1)
    have p1 := Lib.hid (World.news_of_block (heap_alloc_new W3 (.cells #[.int .i64 (r1.out.length : Int), .int .i64 ((r1.bound : Int) + (n : Int))] tBd)))
    have hlen : r1.bounds.length + 1 ≤ 1000000000 := by have := h4.nb; simp at this; omega
    have hbnd : r1.bounds.length + 1 ≤ r1.out.length := by
      obtain ⟨_, _, _, _, _, _, h0⟩ := H.out
      have := h0.nb
      have e := HPUT.out.2.1
      have := hgrow hz
      rw [e]; omega
    have p3 : r1.bounds.length + 1 ≤ maxLen := by unfold maxLen; omega
    have p4 : (r1.bounds.length + 1) * 16 ≤ 140737488355328 := by omega
    have p5 := (h4.drewN 1).hw
    have FIN : Hid (∀ (w5 : World) (v' : Value), ((W3.alloc (.cells #[.int .i64 (r1.out.length : Int), .int .i64 ((r1.bound : Int) + (n : Int))] tBd)).drewN 1).grownBy w5 vb.ownBlock →
        w5.ownsRow B tBd 2 v' (r1.bounds.length + 1) (bdv r1.bounds ++ [.int .i64 (r1.out.length : Int), .int .i64 ((r1.bound : Int) + (n : Int))]) →
        w5.cell? ⟨b, 8, none⟩ = some vb ∧ w5.frozen? ⟨b, 8, none⟩ = false ∧ Wr B b { r1 with bound := r1.bound + n, bounds := r1.bounds ++ [(r1.out.length, r1.bound + n)] } (w5.setCell ⟨b, 8, none⟩ v') ∧ KeptM MW B w (w5.setCell ⟨b, 8, none⟩ v')) := Lib.hid (by
      intro w5 v' hg hown
      have e1 : (r1.bounds ++ [(r1.out.length, r1.bound + n)]).length = r1.bounds.length + 1 := by simp
      obtain ⟨hb, h5⟩ := (h4.drewN 1).setBds (vb' := v') (l' := r1.bounds ++ [(r1.out.length, r1.bound + n)]) hg (by rw [e1]; simpa [bdv] using hown) (by rw [e1]; exact hbnd)
      refine ⟨by rw [cellAt hb]; rfl, Lib.frozen_of_heap hb 8, ?_, (K4.out.grown hg (t := tBd) (by decide) (fun k e => rowKind own4 k e)).setCell (p := ⟨b, 8, none⟩) h4.hB (t := tW) (by decide) (by rw [hb, kindOf]) _⟩
      exact h5.wr)
    clear h3 h4 K4 hnb hz K3
    go_region_law (refine step_append_lies _ rfl (.tmp 23) (.tmp 34) 47 rfl B tBd i0 (.agg #[.int .i64 0, .int .i64 0]) 2 16 Tryz.underlying47 hi hz0 hz1 hz2 rfl (by decide) vb r1.bounds.length _ (by simp [Act.eval]) own4 ⟨w2.heap.size, 0, none⟩ 1 1 [.int .i64 (r1.out.length : Int), .int .i64 ((r1.bound : Int) + (n : Int))] (by simp [Act.eval]) rfl (by rw [← hsz3]; exact p1.out) (by intro u hu; simp at hu; rcases hu with rfl | rfl <;> rfl) (by decide) p3 p4 p5 _ rfl ?_; intro g5 cap5 w5 hown5 hg5 hat5 hlt5; obtain ⟨d8', g8', R5, K5⟩ := FIN.out w5 _ hg5 hown5)
    all_goals
      go_wp2
      go_end0
      exact ⟨rfl, R5, K5⟩
end Go.Proofs.YtidokamjbglkbaaGreatDoor

/- What the writer makes of trees; lists of pieces; arguments. -/
namespace Go.Proofs.YtidokamjbglkbaaGreatDoor
open Go.RowKit

/-- A tree, written: as a piece, as an argument; several. -/
def WR.tree (r : WR) (t : RT) : WR := ⟨r.out ++ enc idW t, r.plain, emp t, r.bound, r.bounds ++ bnds idW r.out.length r.bound t, r.cnt + size t⟩
def WR.argu (r : WR) (t : RT) : WR := ⟨r.out ++ (argMark t.kd ++ enc idW t), r.plain, emp t, r.bound, r.bounds ++ bnds idW (r.out.length + (argMark t.kd).length) r.bound t, r.cnt + size t⟩
def WR.trees (r : WR) (ts : List RT) : WR := ts.foldl WR.tree r
def WR.argus (r : WR) (ts : List RT) : WR := ts.foldl WR.argu r
theorem WR.trees_eq (ts : List RT) : ∀ r : WR, r.trees ts = ⟨r.out ++ encs idW ts, r.plain, if ts = [] then r.empty else empL ts, r.bound, r.bounds ++ bndsL idW r.out.length r.bound ts, r.cnt + sizes ts⟩ := by
  induction ts with
  | nil => intro r; simp [WR.trees, encs, bndsL, sizes]
  | cons t ts ih =>
    intro r
    show WR.trees (r.tree t) ts = _
    rw [ih]
    cases ts with
    | nil => simp [WR.tree, encs, bndsL, sizes, empL]
    | cons u us => simp [WR.tree, encs, bndsL, sizes, empL, Nat.add_assoc]
theorem WR.argus_eq (ts : List RT) : ∀ r : WR, r.argus ts = ⟨r.out ++ encsA idW ts, r.plain, if ts = [] then r.empty else empL ts, r.bound, r.bounds ++ bndsA idW r.out.length r.bound ts, r.cnt + sizes ts⟩ := by
  induction ts with
  | nil => intro r; simp [WR.argus, encsA, bndsA, sizes]
  | cons t ts ih =>
    intro r
    show WR.argus (r.argu t) ts = _
    rw [ih]
    cases ts with
    | nil => simp [WR.argu, encsA, bndsA, sizes, empL]
    | cons u us => simp [WR.argu, encsA, bndsA, sizes, empL, Nat.add_assoc]
/-- A letter needs nothing between. -/
theorem WR.put_let (r : WR) {c : UInt8} {l : List UInt8} (h : letHd c) : r.put (c :: l) = { r with out := r.out ++ (c :: l), empty := false } := by
  have hs : startsDU (c :: l) = false := by unfold letHd at h; simp [startsDU]; omega
  unfold WR.put
  rw [if_neg (by simp)]
  simp [sepOf, hs]
theorem Wr.mono {B b : Nat} {r : WR} {w : World} (h : Wr B b r w) {n : Nat} (hn : r.cnt ≤ n) : Wr B b { r with cnt := n } w := by
  obtain ⟨vo, vt, vm, vb, ts, ms, h⟩ := h
  exact ⟨vo, vt, vm, vb, ts, ms, h.hB, h.hw, h.tab, h.heap, h.out, h.texts, h.marks, h.bds, Nat.le_trans h.nt hn, Nat.le_trans h.nm hn, h.nb, h.bd⟩

/-- The writer within a part that began in w0. -/
structure WX (B b : Nat) (cs : Array Value) (w0 : World) (r : WR) (w : World) : Prop where
  wr : Wr B b r w
  kept : KeptM MW B w0 w
  box : w.heap[w0.heap.size]? = some (.cells cs tRu (0, 0))
theorem WX.start {B b : Nat} {w : World} {r : WR} (cs : Array Value) (h : Wr B b r w) : WX B b cs w r (w.alloc (.cells cs tRu)) := ⟨h.alloc _, (KeptM.refl w).alloc _, tree_new w cs⟩
theorem WX.step {B b : Nat} {cs : Array Value} {w0 w w' : World} {r r' : WR} (h : WX B b cs w0 r w) (k : KeptM MW B w w') (hw : Wr B b r' w') : WX B b cs w0 r' w' := ⟨hw, h.kept.trans k, k.tree h.box⟩
theorem WX.below {B b : Nat} {cs : Array Value} {w0 w w' : World} {r : WR} (h : WX B b cs w0 r w) (k : Below w.heap.size w w') : WX B b cs w0 r w' := h.step (KeptM.of_below k) (h.wr.below k)
theorem WX.drewN {B b : Nat} {cs : Array Value} {w0 w : World} {r : WR} (h : WX B b cs w0 r w) (q : Nat) : WX B b cs w0 r (w.drewN q) := ⟨h.wr.drewN q, h.kept.drewN q, h.box⟩
theorem WX.alloc {B b : Nat} {cs : Array Value} {w0 w : World} {r : WR} (h : WX B b cs w0 r w) (o : Obj) : WX B b cs w0 r (w.alloc o) := ⟨h.wr.alloc o, h.kept.alloc o, (Below.heap_alloc _ _ _ (Array.getElem?_eq_some_iff.1 h.box).1).trans h.box⟩
theorem WX.cells {B b : Nat} {kd : Int} {c : UInt8} {nm : List UInt8} {n : Nat} {fl : Bool} {ks : Value} {w0 w : World} {r : WR} (h : WX B b (rv kd c nm n fl ks) w0 r w) :
    w.cell? ⟨w0.heap.size, 0, none⟩ = some (.int .i64 kd) ∧ w.cell? ⟨w0.heap.size, 1, none⟩ = some (.int .u8 c.toNat) ∧ w.cell? ⟨w0.heap.size, 2, none⟩ = some (.string (bs nm)) ∧ w.cell? ⟨w0.heap.size, 3, none⟩ = some (.int .u64 n) ∧
      w.cell? ⟨w0.heap.size, 4, none⟩ = some (.bool fl) ∧ w.cell? ⟨w0.heap.size, 5, none⟩ = some ks := by
  refine ⟨?_, ?_, ?_, ?_, ?_, ?_⟩ <;> (rw [cellAt h.box]; rfl)
theorem WX.same {B b : Nat} {cs : Array Value} {w0 w : World} {r : WR} (h : WX B b cs w0 r w) (hB : B ≤ w0.heap.size) : ∀ k, k < B → w.heap[k]? = w0.heap[k]? := h.kept.same hB
theorem WX.cast {B b : Nat} {cs : Array Value} {w0 w : World} {r r' : WR} (h : WX B b cs w0 r w) (e : r = r') : WX B b cs w0 r' w := e ▸ h

/-- It writes: r becomes r'. -/
def WrP (B b : Nat) (r' : WR) (w : World) (e : Ending) (w' : World) : Prop := e = .returned (.tuple #[]) ∧ Wr B b r' w' ∧ KeptM MW B w w'
theorem WX.post {B b : Nat} {cs : Array Value} {w0 w : World} {r r' : WR} (h : WX B b cs w0 r w) (e : r = r') : WrP B b r' w0 (.returned (.tuple #[])) w := ⟨rfl, e ▸ h.wr, h.kept⟩

/-- Room for a tree. -/
def room (r : WR) (s : Nat) : Prop := r.out.length + 1200 * s ≤ 900000000 ∧ r.cnt + 1200 * s ≤ 900000000
/-- piece, at a tree. -/
def PieceW (t : RT) : Prop := ∀ (M B b : Nat) (r : WR) (w : World) (kd : Int) (c : UInt8) (nm : List UInt8) (n : Nat) (fl : Bool) (kv : Value), TreeAt M B w (rv kd c nm n fl kv) t → Wr B b r w → room r (size t) →
  Calls Tryz.prog 23 #[.pointer (some ⟨b, 0, none⟩), .agg (rv kd c nm n fl kv)] w (WrP B b (r.tree t) w)
theorem KidW.wcells {M B b : Nat} {cs : Array Value} {w0 : World} {p : RT} {kb o : Nat} {kd : Int} {c : UInt8} {nm : List UInt8} {n : Nat} {fl : Bool} {ks : Value} (K : KidW M B p kb o kd c nm n fl ks w0) (hw : B ≤ w0.heap.size) {w : World} {r : WR} (h : WX B b cs w0 r w) :
    w.cell? ⟨kb, o, none⟩ = some (.int .i64 kd) ∧ w.cell? ⟨kb, o + 1, none⟩ = some (.int .u8 c.toNat) ∧ w.cell? ⟨kb, o + 2, none⟩ = some (.string (bs nm)) ∧ w.cell? ⟨kb, o + 3, none⟩ = some (.int .u64 n) ∧
      w.cell? ⟨kb, o + 4, none⟩ = some (.bool fl) ∧ w.cell? ⟨kb, o + 5, none⟩ = some ks := by
  have K := K.keep (h.same hw)
  exact ⟨K.k0, K.k1, K.k2, K.k3, K.k4, K.k5⟩
theorem KidW.wcall {M B b : Nat} {cs : Array Value} {w0 : World} {p : RT} {kb o : Nat} {kd : Int} {c : UInt8} {nm : List UInt8} {n : Nat} {fl : Bool} {ks : Value} (K : KidW M B p kb o kd c nm n fl ks w0) (hw : B ≤ w0.heap.size) (hp : PieceW p) (w : World) (r : WR) (h : WX B b cs w0 r w) (hr : room r (size p)) :
    Calls Tryz.prog 23 #[.pointer (some ⟨b, 0, none⟩), .agg (rv kd c nm n fl ks)] w (WrP B b (r.tree p) w) :=
  hp M B b r w kd c nm n fl ks (K.keep (h.same hw)).tr h.wr hr
theorem room_enc {r : WR} {t : RT} {n : Nat} (h : room r (size t + n)) (he : (enc idW t).length ≤ 1100 * size t) : room (r.tree t) n := by
  unfold room WR.tree at *
  simp only [List.length_append]
  omega
theorem encs_take {ts : List RT} {j : Nat} (hj : j < ts.length) (r : WR) : r.trees (ts.take (j + 1)) = (r.trees (ts.take j)).tree ts[j] := by
  rw [List.take_succ_eq_append_getElem hj, WR.trees, List.foldl_append]; rfl
theorem room_encs {ts : List RT} {r : WR} (h : room r (sizes ts)) (he : ∀ t ∈ ts, (enc idW t).length ≤ 1100 * size t) (j : Nat) (hj : j < ts.length) : room (r.trees (ts.take j)) (size ts[j]) := by
  have hl : ∀ us : List RT, (∀ t ∈ us, (enc idW t).length ≤ 1100 * size t) → (encs idW us).length ≤ 1100 * sizes us := by
    intro us hu
    induction us with
    | nil => simp [encs]
    | cons u us ih =>
      have h1 := hu u (by simp)
      have h2 := ih fun t ht => hu t (List.mem_cons_of_mem _ ht)
      simp only [encs, sizes, List.length_append]; omega
  have h1 := hl (ts.take j) fun t ht => he t (List.mem_of_mem_take ht)
  have h2 : sizes ts = sizes (ts.take j) + (size ts[j] + sizes (ts.drop (j + 1))) := by
    conv => lhs; rw [← List.take_append_drop j ts, sizes_append, List.drop_eq_getElem_cons hj, sizes]
  rw [WR.trees_eq]
  unfold room at *
  simp only [List.length_append]
  omega

set_option maxHeartbeats 2000000 in
set_option maxRecDepth 100000 in
theorem pieces_wr (M B b : Nat) (r : WR) (w : World) (a : Option Addr) (m cap : Nat) (V : Nat → Array Value) (ks : List RT) (hk : ks.length = m) (hV : KidsIn B w a m V) (hT : ∀ i (h : i < ks.length), TreeAt M B w (V i) ks[i]) (hP : ∀ x ∈ ks, PieceW x)
    (he : ∀ x ∈ ks, (enc idW x).length ≤ 1100 * size x) (hm : m ≤ 1000000000) (h : Wr B b r w) (hr : room r (sizes ks)) :
    Calls Tryz.prog 63 #[.pointer (some ⟨b, 0, none⟩), .slice a m cap] w (WrP B b (r.trees ks) w) := by
  have hw := h.hB
  have H := Lib.hid h
  have HK := Lib.hid (fun i h => kid_of hk hV hT i h)
  have HR := Lib.hid (fun j hj => room_encs hr he j hj)
  have hmx : m ≤ 9223372036854775807 := by omega
  clear hV hT h hr
  go_enter Tryz.func63, Tryz.ntmps63
  go_wp2_with fail
  go_loopg [5, 8] m (fun n _ i wr => ∃ j : Nat, n = m - j ∧ j ≤ m ∧ i = .int .i64 j ∧ Wr B b (r.trees (ks.take j)) wr ∧ KeptM MW B w wr)
  case atStart => exact ⟨0, by omega, Nat.zero_le _, rfl, by simpa [WR.trees] using H.out, KeptM.refl _⟩
  case round =>
    obtain ⟨j, rfl, hj, rfl, hW, kk⟩ := hrel
    by_cases hlt : j < m
    · obtain ⟨kb, off, kd1, c1, nm1, n1, fl1, ka1, km1, kc1, rfl, K⟩ := HK.out j (by omega)
      have K1 := K.keep (kk.same hw)
      have hcall := Lib.hid (hP _ (List.getElem_mem (by omega : j < ks.length)) M B b (r.trees (ks.take j)) (wr.alloc (.cells (rv kd1 c1 nm1 n1 fl1 (.slice ka1 km1 kc1)) tRu)) kd1 c1 nm1 n1 fl1 (.slice ka1 km1 kc1)
        (K1.tr.mono (Nat.le_refl _) (fun k hk => Below.heap_alloc _ _ _ (by have := hW.hB; omega))) (hW.alloc _) (HR.out j (by omega)))
      obtain ⟨_, k0, k1, k2, k3, k4, k5, _⟩ := K1
      have KK := Lib.hid (kk.alloc (.cells (rv kd1 c1 nm1 n1 fl1 (.slice ka1 km1 kc1)) tRu))
      clear K hW kk
      go_wp2_with fail
      refine hcall.out.mono ?_
      rintro e w1 ⟨rfl, h1, k1⟩
      have k2 := KK.out.trans k1
      have HT := Lib.hid (h1.cast (encs_take (by omega) r).symm)
      clear k1 h1 hcall
      go_wp2_with fail
      go_roundg (m - (j + 1))
      case measure => omega
      case rel => exact ⟨j + 1, rfl, by omega, by go_num, HT.out, k2⟩
    · have hjm : j = m := by omega
      subst hjm
      have e3 : ks.take j = ks := by rw [← hk]; exact List.take_length
      rw [e3] at hW
      go_wp2_with fail
      go_end0
      exact ⟨rfl, hW, kk⟩
end Go.Proofs.YtidokamjbglkbaaGreatDoor

/- What a part of the writer does, one step after the other; arguments. -/
namespace Go.Proofs.YtidokamjbglkbaaGreatDoor
open Go.RowKit

/-- What a tree makes of a writer, its own text not counted. -/
def WR.body (r : WR) (t : RT) : WR := ⟨r.out ++ enc idW t, r.plain, emp t, r.bound, r.bounds ++ bnds idW r.out.length r.bound t, r.cnt + (size t - 1)⟩
theorem bs_cons (c : UInt8) (l : List UInt8) : (⟨#[c]⟩ : ByteArray) ++ bs l = bs (c :: l) := by
  have : (⟨#[c]⟩ : ByteArray) = bs [c] := rfl
  rw [this, bs_append]; rfl
theorem out_put (r : WR) (l : List UInt8) : (r.put l).out.length ≤ r.out.length + l.length + 1 := by
  unfold WR.put
  split
  · omega
  · simp only [List.length_append, sepOf]
    split <;> simp <;> omega

/-- Room for n bytes. -/
def roomy (r : WR) (n : Nat) : Prop := r.out.length + n ≤ 900000000 ∧ r.cnt + n ≤ 900000000
theorem roomy.le {r : WR} {n n' : Nat} (h : roomy r n) (hn : n' ≤ n) : roomy r n' := by unfold roomy at *; omega
theorem roomy.put {r : WR} {n : Nat} {l : List UInt8} (k : Nat) (h : roomy r (n + k)) (hl : l.length + 1 ≤ k) : roomy (r.put l) n := by
  have h1 := out_put r l
  have h2 := (WR.put_bound r l).2.2.2
  unfold roomy at *
  omega
theorem roomy.name {r : WR} {n : Nat} {nm : List UInt8} (h : roomy r (n + 1010)) (hm : nameB nm = true ∨ nm = []) : roomy (r.name nm) n := by
  unfold WR.name
  split
  · exact roomy.put (l := [48]) 1010 h (by decide)
  · exact roomy.put 1010 h (by have := idW_len' hm; omega)
theorem roomy.bind {r : WR} {n : Nat} {c : Nat} (h : roomy r (n + 15)) (hc : c ≤ 20) : roomy (r.bind c) n := by
  have := (bb_binder c hc).2
  exact roomy.put (l := binder c) 15 h (by omega)
def EncL (t : RT) : Prop := (enc idW t).length ≤ 1100 * size t
theorem roomy.tree {r : WR} {n : Nat} {t : RT} (h : roomy r (n + 1200 * size t)) (he : EncL t) : roomy (r.tree t) n := by
  unfold roomy WR.tree EncL at *
  simp only [List.length_append]
  omega
theorem len_le_sizes (us : List RT) : us.length ≤ sizes us := by
  induction us with
  | nil => simp
  | cons u us ih => have := size_pos u; simp only [List.length_cons, sizes]; omega
theorem encs_le {us : List RT} (hu : ∀ t ∈ us, EncL t) : (encs idW us).length ≤ 1100 * sizes us := by
  induction us with
  | nil => simp [encs]
  | cons u us ih =>
    have h1 := hu u (by simp)
    have h2 := ih fun t ht => hu t (List.mem_cons_of_mem _ ht)
    unfold EncL at h1
    simp only [encs, sizes, List.length_append]; omega
theorem roomy.trees {r : WR} {n : Nat} {ks : List RT} (h : roomy r (n + 1200 * sizes ks)) (he : ∀ t ∈ ks, EncL t) : roomy (r.trees ks) n := by
  have := encs_le he
  rw [WR.trees_eq]
  unfold roomy at *
  simp only [List.length_append]
  omega
theorem argMark_len (k : Int) : (argMark k).length ≤ 1 := by unfold argMark; split <;> simp
theorem encsA_le {us : List RT} (hu : ∀ t ∈ us, EncL t) : (encsA idW us).length ≤ 1101 * sizes us := by
  induction us with
  | nil => simp [encsA]
  | cons u us ih =>
    have h1 := hu u (by simp)
    have h2 := ih fun t ht => hu t (List.mem_cons_of_mem _ ht)
    have h3 := argMark_len u.kd
    have h4 := size_pos u
    unfold EncL at h1
    simp only [encsA, sizes, List.length_append]; omega
theorem roomy.argus {r : WR} {n : Nat} {ks : List RT} (h : roomy r (n + 1200 * sizes ks)) (he : ∀ t ∈ ks, EncL t) : roomy (r.argus ks) n := by
  have := encsA_le he
  rw [WR.argus_eq]
  unfold roomy at *
  simp only [List.length_append]
  omega
theorem roomy.room {r : WR} {s : Nat} (h : roomy r (1200 * s)) : room r s := h

/-- A step: f, called with these arguments, makes r to r'. -/
def Does (B b : Nat) (cs : Array Value) (w0 : World) (r : WR) (f : FuncId) (args : Array Value) (r' : WR) : Prop :=
  ∀ w', WX B b cs w0 r w' → Calls Tryz.prog f args w' fun e w'' => e = .returned (.tuple #[]) ∧ WX B b cs w0 r' w''
theorem does_of {B b : Nat} {cs : Array Value} {w0 : World} {r : WR} {f : FuncId} {args : Array Value} {r' : WR} (h : ∀ w', WX B b cs w0 r w' → Calls Tryz.prog f args w' (WrP B b r' w')) : Does B b cs w0 r f args r' := by
  intro w' hw
  refine (h w' hw).mono ?_
  rintro e w'' ⟨rfl, h1, k1⟩
  exact ⟨rfl, hw.step k1 h1⟩
theorem does_put {B b : Nat} {cs : Array Value} {w0 : World} {r : WR} (l : List UInt8) (h : roomy r 0) (hl : l.length ≤ 2000) : Does B b cs w0 r 33 #[.pointer (some ⟨b, 0, none⟩), .string (bs l)] (r.put l) :=
  does_of fun w' hw => put_any B b r l w' hw.wr (by unfold roomy at h; omega)
theorem does_name {B b : Nat} {cs : Array Value} {w0 : World} {r : WR} (nm : List UInt8) (hm : nameB nm = true ∨ nm = []) (h : roomy r 0) : Does B b cs w0 r 62 #[.pointer (some ⟨b, 0, none⟩), .string (bs nm)] (r.name nm) :=
  does_of fun w' hw => name_wr B b r nm hm w' hw.wr (by unfold roomy at h; omega)
theorem does_bind {B b : Nat} {cs : Array Value} {w0 : World} {r : WR} (n : Nat) (hn : n ≤ 20) (h : roomy r 0) : Does B b cs w0 r 65 #[.pointer (some ⟨b, 0, none⟩), .int .u64 n] (r.bind n) :=
  does_of fun w' hw => bind_wr B b r n hn w' hw.wr (by unfold roomy at h; omega)

/-- Kids that may be written. -/
structure KW (M B : Nat) (w : World) (a : Option Addr) (m : Nat) (V : Nat → Array Value) (ks : List RT) : Prop where
  hB : B ≤ w.heap.size
  len : ks.length = m
  kids : KidsIn B w a m V
  tree : ∀ i (h : i < ks.length), TreeAt M B w (V i) ks[i]
  el : ∀ x ∈ ks, EncL x
  small : m ≤ 1000000000
theorem KW.keep {M B : Nat} {w w' : World} {a : Option Addr} {m : Nat} {V : Nat → Array Value} {ks : List RT} (h : KW M B w a m V ks) (hs : ∀ k, k < B → w'.heap[k]? = w.heap[k]?) (hB : B ≤ w'.heap.size) : KW M B w' a m V ks :=
  ⟨hB, h.len, h.kids.mono (Nat.le_refl _) hs, fun i hi => (h.tree i hi).mono (Nat.le_refl _) hs, h.el, h.small⟩
theorem KW.tail {M B : Nat} {w : World} {kb off m : Nat} {V : Nat → Array Value} {k : RT} {ks : List RT} (h : KW M B w (some ⟨kb, off, none⟩) m V (k :: ks)) : KW M B w (some ⟨kb, off + 6, none⟩) (m - 1) (fun i => V (i + 1)) ks := by
  have hl := h.len
  have hs := h.small
  simp only [List.length_cons] at hl
  exact ⟨h.hB, by omega, kids_tail h.kids (by omega), trees_tail h.tree, fun x hx => h.el x (List.mem_cons_of_mem _ hx), by omega⟩
theorem KW.init {M B : Nat} {w : World} {a : Option Addr} {m : Nat} {V : Nat → Array Value} {x : RT} {ks : List RT} (h : KW M B w a m V (ks ++ [x])) : KW M B w a (m - 1) V ks := by
  have hl := h.len
  have hs := h.small
  simp only [List.length_append, List.length_cons, List.length_nil] at hl
  exact ⟨h.hB, by omega, kids_init h.kids (by omega), trees_init h.tree, fun y hy => h.el y (List.mem_append_left _ hy), by omega⟩
theorem KW.kid {M B : Nat} {w : World} {a : Option Addr} {m : Nat} {V : Nat → Array Value} {ks : List RT} (h : KW M B w a m V ks) (i : Nat) (hi : i < ks.length) :
    ∃ kb off kd c nm n fl ka km kc, a = some ⟨kb, off, none⟩ ∧ KidW M B ks[i] kb (off + i * 6) kd c nm n fl (.slice ka km kc) w := kid_of h.len h.kids h.tree i hi
theorem WX.hB0 {B b : Nat} {cs : Array Value} {w0 w : World} {r : WR} (h : WX B b cs w0 r w) : B ≤ w.heap.size := h.wr.hB
theorem does_pieces {M B b : Nat} {cs : Array Value} {w0 : World} {r : WR} {a : Option Addr} {m : Nat} (cap : Nat) {V : Nat → Array Value} {ks : List RT} (K : KW M B w0 a m V ks) (hP : ∀ x ∈ ks, PieceW x) (h : roomy r (1200 * sizes ks)) : Does B b cs w0 r 63 #[.pointer (some ⟨b, 0, none⟩), .slice a m cap] (r.trees ks) :=
  does_of fun w' hw => by
    have K' := K.keep (hw.same K.hB) hw.hB0
    exact pieces_wr M B b r w' a m cap V ks K'.len K'.kids K'.tree hP K'.el K'.small hw.wr h
theorem does_kid {M B b : Nat} {cs : Array Value} {w0 : World} {r : WR} {p : RT} {kb o : Nat} {kd : Int} {c : UInt8} {nm : List UInt8} {n : Nat} {fl : Bool} {ks : Value} (K : KidW M B p kb o kd c nm n fl ks w0) (hB : B ≤ w0.heap.size) (hp : PieceW p) (h : roomy r (1200 * size p)) :
    Does B b cs w0 r 23 #[.pointer (some ⟨b, 0, none⟩), .agg (rv kd c nm n fl ks)] (r.tree p) :=
  does_of fun w' hw => K.wcall hB hp w' r hw h

/-- argument, at a tree. -/
def ArgW (t : RT) : Prop := ∀ (M B b : Nat) (r : WR) (w : World) (kd : Int) (c : UInt8) (nm : List UInt8) (n : Nat) (fl : Bool) (kv : Value), TreeAt M B w (rv kd c nm n fl kv) t → Wr B b r w → room r (size t) →
  Calls Tryz.prog 64 #[.pointer (some ⟨b, 0, none⟩), .agg (rv kd c nm n fl kv)] w (WrP B b (r.argu t) w)
theorem does_arg {M B b : Nat} {cs : Array Value} {w0 : World} {r : WR} {p : RT} {kb o : Nat} {kd : Int} {c : UInt8} {nm : List UInt8} {n : Nat} {fl : Bool} {ks : Value} (K : KidW M B p kb o kd c nm n fl ks w0) (hB : B ≤ w0.heap.size) (hp : ArgW p) (h : roomy r (1200 * size p)) :
    Does B b cs w0 r 64 #[.pointer (some ⟨b, 0, none⟩), .agg (rv kd c nm n fl ks)] (r.argu p) :=
  does_of fun w' hw => hp M B b r w' kd c nm n fl ks (K.keep (hw.same hB)).tr hw.wr h
end Go.Proofs.YtidokamjbglkbaaGreatDoor

