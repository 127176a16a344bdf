/- idDelta. -/
import Derived.Test.YtdapnoocmpbijaaGreatDoorY18
import Derived.Test.YtdapnoocmpbijaaGreatDoorY05
import Derived.Test.YtdapnoocmpbijaaGreatDoorY01
import Derived.Test.YtdapnoocmpbijaaGreatDoorY17
import Derived.Deep.LoopGhost
import Derived.Test.YtdapnoocmpbijaaGreatDoorShelf
import Derived.Lib.LaidU8T
import Derived.Lib.OthersKept
import Derived.Laws.OwnMore
namespace Go.Proofs.YtdapnoocmpbijaaGreatDoor
open Go.RowKit

theorem digitsOf_end {bias delta place : Nat} (h : delta < thr place bias) : digitsOf bias delta place = [delta] := by rw [digitsOf, dif_pos h]
theorem digitsOf_step {bias delta place : Nat} (h : ¬ delta < thr place bias) : digitsOf bias delta place = (thr place bias + (delta - thr place bias) % (36 - thr place bias)) :: digitsOf bias ((delta - thr place bias) / (36 - thr place bias)) (place + 1) := by
  conv => lhs; rw [digitsOf, dif_neg h]

set_option maxHeartbeats 4000000 in
set_option maxRecDepth 100000 in
theorem delta_any (delta bias : Nat) (hd : delta ≤ 68000000) (hb : bias ≤ 1000) (w : World) : Calls Tryz.prog 97 #[.int .i64 delta, .int .i64 bias] w fun e w' => e = .returned (.string (bs (wdelta bias delta))) ∧ ∃ q, w' = w.drewN q := by
  have hlen : (wdelta bias delta).length ≤ 9 := wdelta_len bias delta hd
  obtain ⟨D, hD⟩ : ∃ D, wdelta bias delta = D := ⟨_, rfl⟩
  rw [hD] at hlen ⊢
  have HT := Lib.hid (fun p hp w => thr_any p bias hp (by omega) w)
  have HL := Lib.hid (fun n h w => letter_any n h w)
  have H0 := Lib.hid hD
  clear hD
  go_enter Tryz.func97, Tryz.ntmps97
  go_wp2_with fail
  go_loopg [0, 5, 6, 7] delta (fun g dv tv pv _ wr => ∃ (d p : Nat) (acc : List UInt8), d = g ∧ dv = .int .i64 d ∧ tv = .string (bs acc) ∧ pv = .int .i64 p ∧ acc ++ (digitsOf bias d p).map letter = D ∧ p = acc.length + 1 ∧ d ≤ 68000000 ∧ ∃ q, wr = w.drewN q)
  case atStart => exact ⟨delta, 1, [], rfl, rfl, rfl, rfl, by rw [← H0.out]; rfl, rfl, hd, 0, rfl⟩
  case round =>
    obtain ⟨d, p, acc, rfl, rfl, rfl, rfl, he, hp, hdl, q, rfl⟩ := hrel
    have hacc : acc.length ≤ 9 := by have := congrArg List.length he; simp at this; omega
    have hpl : p ≤ 10 := by omega
    have HP := Lib.hid hp
    clear hp
    obtain ⟨t, ht⟩ : ∃ t, thr p bias = t := ⟨_, rfl⟩
    have ht1 := thr_ge p bias
    have ht2 := thr_le p bias
    rw [ht] at ht1 ht2
    have HTP : Hid (∀ w, Calls Tryz.prog 115 #[.int .i64 p, .int .i64 bias] w fun e w' => e = .returned (.int .i64 t) ∧ w = w') := Lib.hid (by
      intro w; have := HT.out p (by omega) w; rwa [ht] at this)
    by_cases hlt : d < t
    · have hd' : decide ((d : Int) < (t : Int)) = true := by simp; omega
      have he2 : bs acc ++ bs [letter d] = bs D := by rw [bs_append, ← he, digitsOf_end (by rw [ht]; exact hlt)]; rfl
      have HE := Lib.hid he2
      have hl1 : ¬ 9223372036854775807 < acc.length + 1 := by omega
      clear he ht he2
      go_wp2_with (first
        | (go_at_call 115; refine (HTP.out _).mono ?_; rintro e w1 ⟨rfl, rfl⟩)
        | (go_at_call 116; refine (HL.out d (by omega) _).mono ?_; rintro e w1 ⟨rfl, rfl⟩))
      go_ret
      exact ⟨congrArg (fun b => Ending.returned (.string b)) HE.out, q, rfl⟩
    · have hd' : decide ((d : Int) < (t : Int)) = false := by simp; omega
      obtain ⟨u, hu⟩ : ∃ u, 36 - t = u := ⟨_, rfl⟩
      obtain ⟨x, hx⟩ : ∃ x, d - t = x := ⟨_, rfl⟩
      have hst := digitsOf_step (bias := bias) (delta := d) (place := p) (by rw [ht]; exact hlt)
      rw [ht, hu, hx] at hst
      have e1 : (d : Int) - (t : Int) = (x : Int) := by omega
      have e2 : 36 - (t : Int) = (u : Int) := by omega
      have hu0 : 1 ≤ u := by omega
      have hmod : x % u < u := Nat.mod_lt _ (by omega)
      have hdiv : x / u ≤ x := Nat.div_le_self _ _
      have q1 : (x : Int).tmod (u : Int) = ((x % u : Nat) : Int) := by rw [IntWalk.rem_in _ _ (by omega)]; simp
      have q2 : (x : Int).tdiv (u : Int) = ((x / u : Nat) : Int) := by rw [Int.tdiv_eq_ediv_of_nonneg (by omega)]; simp
      have q3 : ((u : Int) == 0) = false := by rw [beq_eq_false_iff_ne]; omega
      have hxlt : x < d := by omega
      obtain ⟨y, hy⟩ : ∃ y, x % u = y := ⟨_, rfl⟩
      obtain ⟨z, hz⟩ : ∃ z, x / u = z := ⟨_, rfl⟩
      rw [hy] at hmod q1 hst
      rw [hz] at hdiv q2 hst
      have REL := Lib.hid (show (acc ++ [letter (t + y)]) ++ (digitsOf bias z (p + 1)).map letter = D by rw [← he, hst]; simp)
      have e5 : bs acc ++ bs [letter (t + y)] = bs (acc ++ [letter (t + y)]) := bs_append _ _
      have hl1 : ¬ 9223372036854775807 < acc.length + 1 := by omega
      clear he ht hst hu hx hy hz
      go_wp2_with (first
        | (go_at_call 115; refine (HTP.out _).mono ?_; rintro e w1 ⟨rfl, rfl⟩)
        | (go_at_call 116; refine (HL.out (t + y) (by omega) _).mono ?_; rintro e w1 ⟨rfl, rfl⟩))
      go_roundg z
      case measure => omega
      case rel => exact ⟨z, p + 1, acc ++ [letter (t + y)], rfl, rfl, by rw [← e5], by go_num, REL.out, by have := HP.out; simp; omega, by omega, q, rfl⟩
end Go.Proofs.YtdapnoocmpbijaaGreatDoor

/- Bytes of names; plain names. -/
namespace Go.Proofs.YtdapnoocmpbijaaGreatDoor
open Go.RowKit

set_option maxHeartbeats 2000000 in
theorem rustByte_any (c : UInt8) (w : World) : Calls Tryz.prog 76 #[.int .u8 c.toNat] w fun e w' => e = .returned (.bool (isIdB c)) ∧ w = w' := by
  have hu := c.toNat_lt
  obtain ⟨v, hv⟩ : ∃ v, isIdB c = v := ⟨_, rfl⟩
  rw [hv]
  unfold isIdB at hv
  obtain ⟨n, hn⟩ : ∃ n, c.toNat = n := ⟨_, rfl⟩
  rw [hn] at hv ⊢
  have hc : n ≤ 47 ∨ (48 ≤ n ∧ n ≤ 57) ∨ (58 ≤ n ∧ n ≤ 64) ∨ (65 ≤ n ∧ n ≤ 90) ∨ (91 ≤ n ∧ n ≤ 94) ∨ n = 95 ∨ n = 96 ∨ (97 ≤ n ∧ n ≤ 122) ∨ 123 ≤ n := by omega
  have E1 : decide ((97 : Int) ≤ (n : Int)) = decide (97 ≤ n) := by rw [decide_eq_decide]; omega
  have E2 : decide ((n : Int) ≤ 122) = decide (n ≤ 122) := by rw [decide_eq_decide]; omega
  have E3 : decide ((65 : Int) ≤ (n : Int)) = decide (65 ≤ n) := by rw [decide_eq_decide]; omega
  have E4 : decide ((n : Int) ≤ 90) = decide (n ≤ 90) := by rw [decide_eq_decide]; omega
  have E5 : decide ((48 : Int) ≤ (n : Int)) = decide (48 ≤ n) := by rw [decide_eq_decide]; omega
  have E6 : decide ((n : Int) ≤ 57) = decide (n ≤ 57) := by rw [decide_eq_decide]; omega
  have E7 : ((n : Int) == 95) = decide (n = 95) := by rw [Bool.eq_iff_iff]; simp; omega
  rcases hc with h | h | h | h | h | h | h | h | h
  all_goals
    have F1 := E1
    have F2 := E2
    have F3 := E3
    have F4 := E4
    have F5 := E5
    have F6 := E6
    have F7 := E7
    first
      | rw [decide_eq_true (show 97 ≤ n by omega)] at F1 hv
      | rw [decide_eq_false (show ¬ 97 ≤ n by omega)] at F1 hv
    first
      | rw [decide_eq_true (show n ≤ 122 by omega)] at F2 hv
      | rw [decide_eq_false (show ¬ n ≤ 122 by omega)] at F2 hv
    first
      | rw [decide_eq_true (show 65 ≤ n by omega)] at F3 hv
      | rw [decide_eq_false (show ¬ 65 ≤ n by omega)] at F3 hv
    first
      | rw [decide_eq_true (show n ≤ 90 by omega)] at F4 hv
      | rw [decide_eq_false (show ¬ n ≤ 90 by omega)] at F4 hv
    first
      | rw [decide_eq_true (show 48 ≤ n by omega)] at F5 hv
      | rw [decide_eq_false (show ¬ 48 ≤ n by omega)] at F5 hv
    first
      | rw [decide_eq_true (show n ≤ 57 by omega)] at F6 hv
      | rw [decide_eq_false (show ¬ n ≤ 57 by omega)] at F6 hv
    first
      | rw [decide_eq_true (show n = 95 by omega)] at F7 hv
      | rw [decide_eq_false (show ¬ n = 95 by omega)] at F7 hv
    simp only [Bool.and_true, Bool.and_false, Bool.or_true, Bool.or_false] at hv
    subst hv
    clear E1 E2 E3 E4 E5 E6 E7 h hn
    go_enter Tryz.func76, Tryz.ntmps76
    go_wp2
    go_ret
    exact ⟨rfl, rfl⟩

set_option maxHeartbeats 2000000 in
set_option maxRecDepth 100000 in
theorem plainName_any (l : List UInt8) (hl : l.length ≤ 4611686018427387904) (w : World) : Calls Tryz.prog 74 #[.string (bs l)] w fun e w' => e = .returned (.bool (l.all isIdB && !l.isEmpty)) ∧ w = w' := by
  have HB := Lib.hid (fun c w => rustByte_any c w)
  obtain ⟨v, hv⟩ : ∃ v, (l.all isIdB && !l.isEmpty) = v := ⟨_, rfl⟩
  rw [hv]
  have HV := Lib.hid hv
  clear hv
  go_enter Tryz.func74, Tryz.ntmps74
  go_wp2_with fail
  go_loopg [3] l.length (fun n i wr => ∃ j : Nat, n = l.length - j ∧ j ≤ l.length ∧ i = .int .i64 j ∧ (∀ c ∈ l.take j, isIdB c = true) ∧ wr = w)
  case atStart => exact ⟨0, by omega, Nat.zero_le _, rfl, by simp, rfl⟩
  case round =>
    obtain ⟨j, rfl, hj, rfl, hq, rfl⟩ := hrel
    by_cases hlt : j < l.length
    · have hlt' : j < (bs l).size := by simpa using hlt
      have HQ := Lib.hid hq
      clear hq
      cases hb : isIdB l[j] with
      | false =>
        have hv : v = false := by
          rw [← HV.out, Bool.and_eq_false_iff]
          exact .inl (List.all_eq_false.2 ⟨l[j], List.getElem_mem hlt, by simp [hb]⟩)
        subst hv
        go_wp2_with (go_at_call 76; refine (HB.out l[j] _).mono ?_; rintro e w1 ⟨rfl, rfl⟩; rw [hb])
        go_ret
        exact ⟨rfl, rfl⟩
      | true =>
        have HBJ := Lib.hid hb
        go_wp2_with (go_at_call 76; refine (HB.out l[j] _).mono ?_; rintro e w1 ⟨rfl, rfl⟩; rw [hb])
        clear hb
        go_roundg (l.length - (j + 1))
        case measure => omega
        case rel =>
          refine ⟨j + 1, rfl, by omega, by go_num, ?_, rfl⟩
          intro c hc
          rw [List.take_succ_eq_append_getElem hlt] at hc
          rcases List.mem_append.1 hc with hc | hc
          · exact HQ.out c hc
          · simp at hc; subst hc; exact HBJ.out
    · have hjm : j = l.length := by omega
      subst hjm
      rw [List.take_length] at hq
      have ha : l.all isIdB = true := List.all_eq_true.2 hq
      have hv : v = !l.isEmpty := by rw [← HV.out, ha, Bool.true_and]
      subst hv
      clear hq ha
      cases l with
      | nil =>
        have ht : (bs []).toList.isEmpty = true := by rw [ByteArray.toList_eq]; rfl
        go_wp2_with fail
        go_ret
        exact ⟨rfl, rfl⟩
      | cons c l =>
        have ht : (bs (c :: l)).toList.isEmpty = false := by rw [ByteArray.toList_eq]; rfl
        go_wp2_with fail
        go_ret
        exact ⟨by simp, rfl⟩
end Go.Proofs.YtdapnoocmpbijaaGreatDoor

/- utf8.ValidString. -/
namespace Go.Proofs.YtdapnoocmpbijaaGreatDoor
open Go.RowKit Go.Shelf Go.Lib

theorem cell_kept {W w : World} {a : Addr} {v : Value} (h : W.cell? a = some v) (hs : ∀ k, k < W.heap.size → w.heap[k]? = W.heap[k]?) : w.cell? a = some v := by
  have hlt : a.block < W.heap.size := by
    rcases Nat.lt_or_ge a.block W.heap.size with h' | h'
    · exact h'
    · simp [World.cell?, Array.getElem?_eq_none h'] at h
  rw [← h]
  simp only [World.cell?, hs _ hlt]

set_option maxRecDepth 100000 in
theorem Tabs.utf8 {B : Nat} {w : World} (h : Tabs B w) : Lib.Utf8Tabs (Tryz.laysValid_ren.g 3) (Tryz.laysValid_ren.g 4) w := by
  obtain ⟨W, ⟨_, L, hL, _, h1, h2⟩, hB, hs⟩ := h
  have T : Lib.Utf8Tabs (Tryz.laysValid_ren.g 3) (Tryz.laysValid_ren.g 4) W :=
    utf8Tabs_of_readsT (U8Types.of196 Tryz.laysValid) ⟨by kernel_rfl, by kernel_rfl, by kernel_rfl, by kernel_rfl, by kernel_rfl, by kernel_rfl, by kernel_rfl⟩ (Lib.laidMet.reads hL h1) (Lib.laidMet.reads hL h2)
  exact ⟨fun c hc => cell_kept (T.1 c hc) hs, fun i hi => ⟨cell_kept (T.2 i hi).1 hs, cell_kept (T.2 i hi).2 hs⟩⟩
theorem valid_any (s : ByteArray) (hs : s.size ≤ 9223372036854775807) (B : Nat) (w : World) (hT : Tabs B w) :
    Calls Tryz.prog 92 #[.string s] w fun e w' => e = .returned (.bool (Lib.validD s.data.toList)) ∧ Below w.heap.size w w' :=
  Any.utf8_ValidString Tryz.laysValid s w hs hT.utf8
end Go.Proofs.YtdapnoocmpbijaaGreatDoor

/- IdCharacters. -/
namespace Go.Proofs.YtdapnoocmpbijaaGreatDoor
open Go.RowKit

theorem infoInt : (Tryz.prog.info? tInt).map (fun i => (i.zero, i.size, i.bytes)) = some (some (.int .i64 0), 1, 8) := by kernel_rfl
theorem cell_new1 (w : World) (v : Value) (T : TypeId) : ∀ (j : Nat) (u : Value), ([v] : List Value)[j]? = some u → (w.alloc (.cells #[v] T)).cell? ((⟨w.heap.size, 0, none⟩ : Addr).add j) = some u := by
  intro j u hj
  match j, hj with
  | 0, hj => simp at hj; subst hj; simp [Addr.add]
theorem info_partsI : ∃ i, Tryz.prog.info? tInt = some i ∧ i.zero = some (.int .i64 0) ∧ i.size = 1 ∧ i.bytes = 8 := by
  obtain ⟨i, hi, he⟩ := Option.map_eq_some_iff.1 infoInt
  simp only [Prod.mk.injEq] at he
  exact ⟨i, hi, he.1, he.2.1, he.2.2⟩
theorem own_iter {w : World} {B e size n : Nat} {v : Value} {xs : List Value} {k : Nat} {s : ByteArray} {pos : Nat} (h : w.ownsRow B e size v n xs) (hk : w.heap[k]? = some (.stringIter s pos)) (pos' : Nat) : (w.iterAt k s pos').ownsRow B e size v n xs := by
  refine ⟨h.1, ?_⟩
  rcases h.2 with h0 | ⟨g, cap, cur, hv, hb, hg, rest⟩
  · exact .inl h0
  · refine .inr ⟨g, cap, cur, hv, hb, ?_, rest⟩
    rw [Lib.iterAt_other _ _ _ _ _ (fun e => by subst e; rw [hk] at hg; cases hg)]
    exact hg
theorem ne_iter {w : World} {B e size n : Nat} {v : Value} {xs : List Value} {k : Nat} {s : ByteArray} {pos : Nat} (h : w.ownsRow B e size v n xs) (hk : w.heap[k]? = some (.stringIter s pos)) : some k ≠ v.ownBlock := by
  rcases h.2 with ⟨rfl, _⟩ | ⟨g, cap, cur, rfl, hb, hg, rest⟩
  · simp [Value.ownBlock]
  · intro e
    simp only [Value.ownBlock, Option.some.injEq] at e
    subst e
    rw [hk] at hg
    cases hg

/-- Numbers, as cells. -/
def cv (L : List Nat) : List Value := L.map fun c => .int .i64 (c : Nat)

set_option maxHeartbeats 4000000 in
set_option maxRecDepth 100000 in
theorem chars_any (l : List UInt8) (hl : l.length ≤ 2147483647) (B : Nat) (w : World) (hT : Tabs B w) :
    Calls Tryz.prog 75 #[.string (bs l)] w fun e w' => Below w.heap.size w w' ∧ (Lib.validD l = false → e = .returned (.tuple #[.slice none 0 0, .bool false])) ∧
      (Lib.validD l = true → ∃ v, e = .returned (.tuple #[v, .bool true]) ∧ w'.ownsRow w.heap.size tInt 1 v (chars l).length (cv (chars l))) := by
  have HV := Lib.hid (valid_any (bs l) (by simp; omega) B w hT)
  cases hv : Lib.validD l with
  | false =>
    go_enter Tryz.func75, Tryz.ntmps75
    go_wp2_with (go_at_call 92; refine HV.out.mono ?_; rintro e w1 ⟨rfl, b1⟩; rw [bs_list, hv])
    go_ret2
    exact ⟨b1, fun _ => rfl, fun h => (by cases h)⟩
  | true =>
    go_enter Tryz.func75, Tryz.ntmps75
    go_wp2_with (go_at_call 92; refine HV.out.mono ?_; rintro e w1 ⟨rfl, b1⟩; rw [bs_list, hv])
    have e0 := World.ownsRow_lit (base := w.heap.size) (e := tInt) (size := 1) w1 #[] 0 b1.size (Nat.zero_le _) rfl
    have b2 := b1.alloc b1.size (.cells #[] tInt)
    go_loopg [4] l.length (fun n v wr => ∃ (pos : Nat) (done : List Nat), n = l.length - pos ∧ pos ≤ l.length ∧ chars l = done ++ chars (l.drop pos) ∧ done.length ≤ pos ∧ wr.ownsRow w.heap.size tInt 1 v done.length (cv done) ∧
      wr.heap[w1.heap.size + 1]? = some (.stringIter (bs l) pos) ∧ Below w.heap.size w wr)
    case atStart => 
      refine ⟨0, [], by omega, Nat.zero_le _, by simp, Nat.le_refl _, ?_, ?_, ?_⟩
      · exact e0.alloc _
      · have := World.iter_heap (w1.alloc (.cells #[] tInt)) (bs l) 0
        simpa using this
      · exact b2.alloc b2.size _
    case round =>
      obtain ⟨pos, done, rfl, hps, hch, hdl, hown, hit, hbw⟩ := hrel
      clear e0 b2
      by_cases hlt : pos < l.length
      · have hlt' : pos < (bs l).size := by simpa using hlt
        have hnx : ∀ ty, (Instr.next (.pointer (some ⟨w1.heap.size + 1, 0, none⟩)) true ty).run Tryz.prog wr = _ := fun ty => Lib.run_next_any_at wr (w1.heap.size + 1) (bs l) pos ty hit hlt'
        have hdec : Utf8.decode (bs l) pos = Lib.decodeL (l.drop pos) := (Lib.decodeL_drop (bs l) pos).symm
        rw [hdec] at hnx
        have hne : l.drop pos ≠ [] := by intro e; have := congrArg List.length e; simp at this; omega
        have hst := chars_step (l.drop pos) hne
        have hw1 := decode_pos (l.drop pos)
        have hw2 := Lib.decodeL_le (l.drop pos) hne
        have hcb := Lib.decodeL_rune (l.drop pos)
        obtain ⟨c, hc⟩ : ∃ c, (Lib.decodeL (l.drop pos)).1 = c := ⟨_, rfl⟩
        obtain ⟨wd, hwd⟩ : ∃ wd, (Lib.decodeL (l.drop pos)).2 = wd := ⟨_, rfl⟩
        rw [hc, hwd] at hnx hst
        rw [hwd] at hw1 hw2
        rw [hc] at hcb
        rw [List.length_drop] at hw2
        rw [List.drop_drop] at hst
        obtain ⟨ii, hii, hi0, hi1, hi2⟩ := info_partsI
        have own1 := own_iter hown hit (pos + wd)
        have it1 := Lib.iterAt_heap wr (w1.heap.size + 1) (bs l) pos (pos + wd) hit
        have bw1 := Lib.below_iterAt hbw (show w.heap.size ≤ w1.heap.size + 1 by have := b1.size; omega) (bs l) (pos + wd)
        generalize wr.iterAt (w1.heap.size + 1) (bs l) (pos + wd) = W1 at hnx own1 it1 bw1
        have own2 := own1.alloc (.cells #[.int .i64 (c : Int)] tInt)
        have it2 : (W1.alloc (.cells #[.int .i64 (c : Int)] tInt)).heap[w1.heap.size + 1]? = some (.stringIter (bs l) (pos + wd)) := (Below.heap_alloc _ _ _ (Array.getElem?_eq_some_iff.1 it1).1).trans it1
        have bw2 := bw1.alloc bw1.size (.cells #[.int .i64 (c : Int)] tInt)
        have p1 := Lib.hid (cell_new1 W1 (.int .i64 (c : Int)) tInt)
        have p3 : done.length + 1 ≤ maxLen := by unfold maxLen; omega
        have p4 : (done.length + 1) * 8 ≤ 140737488355328 := by omega
        have p5 := bw2.size
        have hne2 := ne_iter own2 it2
        have HCH := Lib.hid hch
        have HST := Lib.hid hst
        clear hown hit hbw hch hst hc hwd hne
        go_wp2_with (at_builtin; refine wpList_append_own _ rfl _ _ 40 rfl w.heap.size tInt ii (.int .i64 0) 1 8 Tryz.underlying40 hii hi0 hi1 hi2 rfl (by decide) _ _ _ rfl own2 ⟨W1.heap.size, 0, none⟩ 1 1 [.int .i64 (c : Int)] rfl rfl p1.out (by intro u hu; simp at hu; subst hu; rfl) p3 p4 p5 ?_)
        intro v5 w5 hown5 hg5 _
        have it5 : w5.heap[w1.heap.size + 1]? = some (.stringIter (bs l) (pos + wd)) := (hg5.block _ (Array.getElem?_eq_some_iff.1 it2).1 hne2).trans it2
        have bw5 := bw2.grown hg5 bw2.size (fun k e => (own2.lt k e).1)
        clear own2 it2 bw2 own1 it1 bw1 hnx
        go_wp2
        go_roundg (l.length - (pos + wd))
        case measure => omega
        case rel => exact ⟨pos + wd, done ++ [c], rfl, by omega, by rw [HCH.out, HST.out]; simp, by simp; omega, by simpa [cv] using hown5, it5, bw5⟩
      · have hpe : pos = l.length := by omega
        subst hpe
        have hnx : ∀ ty, (Instr.next (.pointer (some ⟨w1.heap.size + 1, 0, none⟩)) true ty).run Tryz.prog wr = _ := fun ty => Lib.run_next_end_at wr (w1.heap.size + 1) (bs l) l.length ty hit (by simp)
        have hd : chars l = done := by rw [hch]; simp [chars_nil]
        go_wp2
        go_ret2
        exact ⟨hbw, fun h => (by cases h), fun _ => ⟨_, rfl, by rw [hd]; exact hown⟩⟩
end Go.Proofs.YtdapnoocmpbijaaGreatDoor

/- idNext. -/
namespace Go.Proofs.YtdapnoocmpbijaaGreatDoor
open Go.RowKit

/-- Numbers that lie in a row. -/
def RowAt (w : World) (g : Nat) (L : List Nat) : Prop := ∀ j (h : j < L.length), w.cell? ⟨g, j, none⟩ = some (.int .i64 (L[j] : Nat))
theorem RowAt.of_own {w : World} {B g cap : Nat} {L : List Nat} (h : w.ownsRow B tInt 1 (.slice (some ⟨g, 0, none⟩) L.length cap) L.length (cv L)) : RowAt w g L := by
  intro j hj
  have := h.cells (g := g) rfl j (.int .i64 (L[j] : Nat)) (by simp [cv, hj])
  rw [Go.WideShapes.add_plain] at this
  simpa using this
theorem RowAt.drewN {w : World} {g : Nat} {L : List Nat} (h : RowAt w g L) (q : Nat) : RowAt (w.drewN q) g L := h

def nextZ (nx : Option Nat) : Int := match nx with | none => -1 | some y => y

set_option maxHeartbeats 4000000 in
set_option maxRecDepth 100000 in
theorem next_any (g cap : Nat) (L : List Nat) (least : Nat) (hL : L.length ≤ 1000) (hb : ∀ x ∈ L, x ≤ 1114111) (_ : least ≤ 1200000) (w : World) (hR : RowAt w g L) :
    Calls Tryz.prog 96 #[.slice (some ⟨g, 0, none⟩) L.length cap, .int .i64 least] w fun e w' => e = .returned (.int .i64 (nextZ (nextOf L least))) ∧ w = w' := by
  have HR := Lib.hid hR
  have HB := Lib.hid hb
  obtain ⟨N, hN⟩ : ∃ N, nextOf L least = N := ⟨_, rfl⟩
  rw [hN]
  unfold nextOf at hN
  have HN := Lib.hid hN
  clear hN hR hb
  go_enter Tryz.func96, Tryz.ntmps96
  go_wp2_with fail
  go_loopg [5, 7, 10] L.length (fun n xv _ i wr => ∃ (j : Nat) (nx : Option Nat), n = L.length - j ∧ j ≤ L.length ∧ i = .int .i64 j ∧ xv = .int .i64 (nextZ nx) ∧ (L.take j).foldl (nextF least) none = nx ∧ (∀ y, nx = some y → y ≤ 1114111) ∧ wr = w)
  case atStart => exact ⟨0, none, by omega, Nat.zero_le _, rfl, rfl, rfl, fun y h => (by cases h), rfl⟩
  case round =>
    obtain ⟨j, nx, rfl, hj, rfl, rfl, hf, hnb, rfl⟩ := hrel
    by_cases hlt : j < L.length
    · have hcell := HR.out j hlt
      have hcb := HB.out _ (List.getElem_mem hlt)
      have hst : (L.take (j + 1)).foldl (nextF least) none = nextF least nx L[j] := by rw [List.take_succ_eq_append_getElem hlt, List.foldl_append, hf]; rfl
      obtain ⟨c, hc⟩ : ∃ c, L[j] = c := ⟨_, rfl⟩
      rw [hc] at hcell hcb hst
      clear hc hf
      have HST := Lib.hid hst
      clear hst
      by_cases h1 : least ≤ c
      · have f1 : decide ((least : Int) ≤ (c : Int)) = true := by simp; omega
        cases nx with
        | none =>
          have f2 : nextZ none = -1 := rfl
          have REL := Lib.hid (show (L.take (j + 1)).foldl (nextF least) none = some c by rw [HST.out]; simp [nextF, h1])
          rw [f2]
          clear hnb
          go_wp2
          go_roundg (L.length - (j + 1))
          case measure => omega
          case rel => exact ⟨j + 1, some c, rfl, by omega, by go_num, rfl, REL.out, fun y h => by cases h; exact hcb, rfl⟩
        | some y =>
          have hy := hnb y rfl
          have f2 : nextZ (some y) = (y : Int) := rfl
          by_cases h2 : c < y
          · have f3 : decide ((c : Int) < (y : Int)) = true := by simp; omega
            have REL := Lib.hid (show (L.take (j + 1)).foldl (nextF least) none = some c by rw [HST.out]; simp [nextF, h1, h2])
            rw [f2]
            clear hnb
            go_wp2
            go_roundg (L.length - (j + 1))
            case measure => omega
            case rel => exact ⟨j + 1, some c, rfl, by omega, by go_num, rfl, REL.out, fun y h => by cases h; exact hcb, rfl⟩
          · have f3 : decide ((c : Int) < (y : Int)) = false := by simp; omega
            have REL := Lib.hid (show (L.take (j + 1)).foldl (nextF least) none = some y by rw [HST.out]; simp [nextF, h1, h2])
            rw [f2]
            clear hnb
            go_wp2
            go_roundg (L.length - (j + 1))
            case measure => omega
            case rel => exact ⟨j + 1, some y, rfl, by omega, by go_num, rfl, REL.out, fun y h => by cases h; exact hy, rfl⟩
      · have f1 : decide ((least : Int) ≤ (c : Int)) = false := by simp; omega
        have REL := Lib.hid (show (L.take (j + 1)).foldl (nextF least) none = nx by rw [HST.out]; simp [nextF, h1])
        have HNB := Lib.hid hnb
        clear hnb
        go_wp2
        go_roundg (L.length - (j + 1))
        case measure => omega
        case rel => exact ⟨j + 1, nx, rfl, by omega, by go_num, rfl, REL.out, HNB.out, rfl⟩
    · have hjl : j = L.length := by omega
      subst hjl
      rw [List.take_length, HN.out] at hf
      subst hf
      clear hnb
      go_wp2
      go_ret
      exact ⟨rfl, rfl⟩
end Go.Proofs.YtdapnoocmpbijaaGreatDoor

