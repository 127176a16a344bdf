/- Right trees. -/
import Derived.Test.YtidokamjbglkbaaGreatDoorY03
import Derived.Test.YtidokamjbglkbaaGreatDoorY01
import Derived.Test.YtidokamjbglkbaaGreatDoorY02
import Derived.Deep.LoopGhost
import Derived.Test.YtidokamjbglkbaaGreatDoorShelf
import Derived.Lib.LaidU8T
import Derived.Lib.OthersKept
import Derived.Laws.OwnMore
namespace Go.Proofs.YtidokamjbglkbaaGreatDoor

def isPathK (k : Int) : Prop := 1 ≤ k ∧ k ≤ 6
def isTypeK (k : Int) : Prop := 1 ≤ k ∧ k ≤ 16
def isConstK (k : Int) : Prop := k = 20 ∨ k = 21
def isArgK (k : Int) : Prop := isTypeK k ∨ k = 19 ∨ isConstK k
/-- What may stand where something is wanted. -/
def fitsK (k : Int) (want : Nat) : Prop :=
  if want = 0 then isPathK k else if want = 1 then isTypeK k else if want = 2 then isArgK k else if want = 3 then isConstK k else if want = 4 then k = 17 else k = 18
instance (k : Int) : Decidable (isPathK k) := inferInstanceAs (Decidable (_ ∧ _))
instance (k : Int) : Decidable (isTypeK k) := inferInstanceAs (Decidable (_ ∧ _))
instance (k : Int) : Decidable (isConstK k) := inferInstanceAs (Decidable (_ ∨ _))
instance (k : Int) : Decidable (isArgK k) := inferInstanceAs (Decidable (_ ∨ _ ∨ _))
instance (k : Int) (want : Nat) : Decidable (fitsK k want) := by unfold fitsK; infer_instance

/-- An ABI that may be written. -/
def lowB (c : UInt8) : Bool := decide (97 ≤ c.toNat) && decide (c.toNat ≤ 122)
def abiTail (c : UInt8) : Bool := lowB c || (decide (c.toNat = 45) || (decide (48 ≤ c.toNat) && decide (c.toNat ≤ 57)))
def abiB (nm : List UInt8) : Bool :=
  decide (nm = []) || (decide (nm = [67]) || (match nm with | [] => false | c :: l => lowB c && (l.all abiTail && decide (nm.length ≤ 20))))

/-- A tree that is right where b lifetimes are bound. -/
inductive Rt : Nat → RT → Prop
  | crate (b c nm n fl) (hn : n < 4611686018427387904) (hm : nameB nm = true) : Rt b (.mk 1 c nm n fl [])
  | impl (b c nm n fl p t) (hn : n < 4611686018427387904) (hp : Rt 0 p) (kp : isPathK p.kd) (ht : Rt b t) (kt : isTypeK t.kd) : Rt b (.mk 2 c nm n fl [p, t])
  | timpl (b c nm n fl p t q) (hn : n < 4611686018427387904) (hp : Rt 0 p) (kp : isPathK p.kd) (ht : Rt b t) (kt : isTypeK t.kd) (hq : Rt b q) (kq : isPathK q.kd) : Rt b (.mk 3 c nm n fl [p, t, q])
  | tdef (b c nm n fl t q) (hn : n < 4611686018427387904) (ht : Rt b t) (kt : isTypeK t.kd) (hq : Rt b q) (kq : isPathK q.kd) : Rt b (.mk 4 c nm n fl [t, q])
  | nested (b c nm n fl p) (hn : n < 4611686018427387904) (hc : (lowB c = true ∧ nameB nm = true) ∨ ((c = 67 ∨ c = 83) ∧ (nameB nm = true ∨ nm = []))) (hp : Rt b p) (kp : isPathK p.kd) : Rt b (.mk 5 c nm n fl [p])
  | gen (b c nm n fl p gs) (hn : n < 4611686018427387904) (has : gs ≠ []) (hp : Rt b p) (kp : isPathK p.kd) (ha : ∀ a ∈ gs, Rt b a) (ka : ∀ a ∈ gs, isArgK a.kd) : Rt b (.mk 6 c nm n fl (p :: gs))
  | basic (b c nm n fl) (hc : basicText c.toNat ≠ []) : Rt b (.mk 7 c nm n fl [])
  | arr (b c nm n fl t k) (ht : Rt b t) (kt : isTypeK t.kd) (hk : Rt b k) (kk : isConstK k.kd) : Rt b (.mk 8 c nm n fl [t, k])
  | slice (b c nm n fl t) (ht : Rt b t) (kt : isTypeK t.kd) : Rt b (.mk 9 c nm n fl [t])
  | tuple (b c nm n fl ts) (ht : ∀ t ∈ ts, Rt b t) (kt : ∀ t ∈ ts, isTypeK t.kd) : Rt b (.mk 10 c nm n fl ts)
  | ref (b c nm n fl t) (hn : n ≤ b) (ht : Rt b t) (kt : isTypeK t.kd) : Rt b (.mk 11 c nm n fl [t])
  | mut (b c nm n fl t) (hn : n ≤ b) (ht : Rt b t) (kt : isTypeK t.kd) : Rt b (.mk 12 c nm n fl [t])
  | cptr (b c nm n fl t) (ht : Rt b t) (kt : isTypeK t.kd) : Rt b (.mk 13 c nm n fl [t])
  | mptr (b c nm n fl t) (ht : Rt b t) (kt : isTypeK t.kd) : Rt b (.mk 14 c nm n fl [t])
  | fn (b c nm n fl ps r) (hn : b + n ≤ 20) (ha : abiB nm = true) (hr0 : ¬ (r.kd = 10 ∧ r.ks = [])) (hp : ∀ t ∈ ps, Rt (b + n) t) (kp : ∀ t ∈ ps, isTypeK t.kd) (hr : Rt (b + n) r) (kr : isTypeK r.kd) : Rt b (.mk 15 c nm n fl (ps ++ [r]))
  | dyn (b c nm n fl bs l) (hn : b + n ≤ 20) (hb0 : bs ≠ []) (hb : ∀ t ∈ bs, Rt (b + n) t) (kb : ∀ t ∈ bs, t.kd = 17) (hl : Rt b l) (kl : l.kd = 19) : Rt b (.mk 16 c nm n fl (bs ++ [l]))
  | bound (b c nm n fl p bd) (hp : Rt b p) (kp : isPathK p.kd) (hb : ∀ t ∈ bd, Rt b t) (kb : ∀ t ∈ bd, t.kd = 18) : Rt b (.mk 17 c nm n fl (p :: bd))
  | binding (b c nm n fl t) (hm : nameB nm = true) (ht : Rt b t) (kt : isTypeK t.kd) : Rt b (.mk 18 c nm n fl [t])
  | life (b c nm n fl) (hn : n ≤ b) : Rt b (.mk 19 c nm n fl [])
  | num (b c nm n fl K) (hK : KindOk K c n fl) (hn : n < 18446744073709551616) : Rt b (.mk 20 c nm n fl [])
  | hole (b c nm n fl) : Rt b (.mk 21 c nm n fl [])

theorem size_pos (t : RT) : 1 ≤ size t := by cases t; simp only [size]; omega
end Go.Proofs.YtidokamjbglkbaaGreatDoor

/- Bytes of names; plain names. -/
namespace Go.Proofs.YtidokamjbglkbaaGreatDoor
open Go.RowKit

set_option maxHeartbeats 2000000 in
theorem rustByte_any (c : UInt8) (w : World) : Calls Tryz.prog 70 #[.int .u8 c.toNat] w fun e w' => e = .returned (.bool (isIdB c)) ∧ w = w' := by
  have hu := c.toNat_lt
  obtain ⟨v, hv⟩ : ∃ v, isIdB c = v := ⟨_, rfl⟩
  rw [hv]
  unfold isIdB at hv
  obtain ⟨n, hn⟩ : ∃ n, c.toNat = n := ⟨_, rfl⟩
  rw [hn] at hv ⊢
  have hc : n ≤ 47 ∨ (48 ≤ n ∧ n ≤ 57) ∨ (58 ≤ n ∧ n ≤ 64) ∨ (65 ≤ n ∧ n ≤ 90) ∨ (91 ≤ n ∧ n ≤ 94) ∨ n = 95 ∨ n = 96 ∨ (97 ≤ n ∧ n ≤ 122) ∨ 123 ≤ n := by omega
  have E1 : decide ((97 : Int) ≤ (n : Int)) = decide (97 ≤ n) := by rw [decide_eq_decide]; omega
  have E2 : decide ((n : Int) ≤ 122) = decide (n ≤ 122) := by rw [decide_eq_decide]; omega
  have E3 : decide ((65 : Int) ≤ (n : Int)) = decide (65 ≤ n) := by rw [decide_eq_decide]; omega
  have E4 : decide ((n : Int) ≤ 90) = decide (n ≤ 90) := by rw [decide_eq_decide]; omega
  have E5 : decide ((48 : Int) ≤ (n : Int)) = decide (48 ≤ n) := by rw [decide_eq_decide]; omega
  have E6 : decide ((n : Int) ≤ 57) = decide (n ≤ 57) := by rw [decide_eq_decide]; omega
  have E7 : ((n : Int) == 95) = decide (n = 95) := by rw [Bool.eq_iff_iff]; simp; omega
  rcases hc with h | h | h | h | h | h | h | h | h
  all_goals
    have F1 := E1
    have F2 := E2
    have F3 := E3
    have F4 := E4
    have F5 := E5
    have F6 := E6
    have F7 := E7
    first
      | rw [decide_eq_true (show 97 ≤ n by omega)] at F1 hv
      | rw [decide_eq_false (show ¬ 97 ≤ n by omega)] at F1 hv
    first
      | rw [decide_eq_true (show n ≤ 122 by omega)] at F2 hv
      | rw [decide_eq_false (show ¬ n ≤ 122 by omega)] at F2 hv
    first
      | rw [decide_eq_true (show 65 ≤ n by omega)] at F3 hv
      | rw [decide_eq_false (show ¬ 65 ≤ n by omega)] at F3 hv
    first
      | rw [decide_eq_true (show n ≤ 90 by omega)] at F4 hv
      | rw [decide_eq_false (show ¬ n ≤ 90 by omega)] at F4 hv
    first
      | rw [decide_eq_true (show 48 ≤ n by omega)] at F5 hv
      | rw [decide_eq_false (show ¬ 48 ≤ n by omega)] at F5 hv
    first
      | rw [decide_eq_true (show n ≤ 57 by omega)] at F6 hv
      | rw [decide_eq_false (show ¬ n ≤ 57 by omega)] at F6 hv
    first
      | rw [decide_eq_true (show n = 95 by omega)] at F7 hv
      | rw [decide_eq_false (show ¬ n = 95 by omega)] at F7 hv
    simp only [Bool.and_true, Bool.and_false, Bool.or_true, Bool.or_false] at hv
    subst hv
    clear E1 E2 E3 E4 E5 E6 E7 h hn
    go_enter Tryz.func70, Tryz.ntmps70
    go_wp2
    go_ret
    exact ⟨rfl, rfl⟩

set_option maxHeartbeats 2000000 in
set_option maxRecDepth 100000 in
theorem plainName_any (l : List UInt8) (hl : l.length ≤ 4611686018427387904) (w : World) : Calls Tryz.prog 68 #[.string (bs l)] w fun e w' => e = .returned (.bool (l.all isIdB && !l.isEmpty)) ∧ w = w' := by
  have HB := Lib.hid (fun c w => rustByte_any c w)
  obtain ⟨v, hv⟩ : ∃ v, (l.all isIdB && !l.isEmpty) = v := ⟨_, rfl⟩
  rw [hv]
  have HV := Lib.hid hv
  clear hv
  go_enter Tryz.func68, Tryz.ntmps68
  go_wp2_with fail
  go_loopg [3] l.length (fun n i wr => ∃ j : Nat, n = l.length - j ∧ j ≤ l.length ∧ i = .int .i64 j ∧ (∀ c ∈ l.take j, isIdB c = true) ∧ wr = w)
  case atStart => exact ⟨0, by omega, Nat.zero_le _, rfl, by simp, rfl⟩
  case round =>
    obtain ⟨j, rfl, hj, rfl, hq, rfl⟩ := hrel
    by_cases hlt : j < l.length
    · have hlt' : j < (bs l).size := by simpa using hlt
      have HQ := Lib.hid hq
      clear hq
      cases hb : isIdB l[j] with
      | false =>
        have hv : v = false := by
          rw [← HV.out, Bool.and_eq_false_iff]
          exact .inl (List.all_eq_false.2 ⟨l[j], List.getElem_mem hlt, by simp [hb]⟩)
        subst hv
        go_wp2_with (go_at_call 70; refine (HB.out l[j] _).mono ?_; rintro e w1 ⟨rfl, rfl⟩; rw [hb])
        go_ret
        exact ⟨rfl, rfl⟩
      | true =>
        have HBJ := Lib.hid hb
        go_wp2_with (go_at_call 70; refine (HB.out l[j] _).mono ?_; rintro e w1 ⟨rfl, rfl⟩; rw [hb])
        clear hb
        go_roundg (l.length - (j + 1))
        case measure => omega
        case rel =>
          refine ⟨j + 1, rfl, by omega, by go_num, ?_, rfl⟩
          intro c hc
          rw [List.take_succ_eq_append_getElem hlt] at hc
          rcases List.mem_append.1 hc with hc | hc
          · exact HQ.out c hc
          · simp at hc; subst hc; exact HBJ.out
    · have hjm : j = l.length := by omega
      subst hjm
      rw [List.take_length] at hq
      have ha : l.all isIdB = true := List.all_eq_true.2 hq
      have hv : v = !l.isEmpty := by rw [← HV.out, ha, Bool.true_and]
      subst hv
      clear hq ha
      cases l with
      | nil =>
        have ht : (bs []).toList.isEmpty = true := by rw [ByteArray.toList_eq]; rfl
        go_wp2_with fail
        go_ret
        exact ⟨rfl, rfl⟩
      | cons c l =>
        have ht : (bs (c :: l)).toList.isEmpty = false := by rw [ByteArray.toList_eq]; rfl
        go_wp2_with fail
        go_ret
        exact ⟨by simp, rfl⟩
end Go.Proofs.YtidokamjbglkbaaGreatDoor

/- utf8.ValidString. -/
namespace Go.Proofs.YtidokamjbglkbaaGreatDoor
open Go.RowKit Go.Shelf Go.Lib

theorem cell_kept {W w : World} {a : Addr} {v : Value} (h : W.cell? a = some v) (hs : ∀ k, k < W.heap.size → w.heap[k]? = W.heap[k]?) : w.cell? a = some v := by
  have hlt : a.block < W.heap.size := by
    rcases Nat.lt_or_ge a.block W.heap.size with h' | h'
    · exact h'
    · simp [World.cell?, Array.getElem?_eq_none h'] at h
  rw [← h]
  simp only [World.cell?, hs _ hlt]

set_option maxRecDepth 100000 in
theorem Tabs.utf8 {B : Nat} {w : World} (h : Tabs B w) : Lib.Utf8Tabs (Tryz.laysValid_ren.g 3) (Tryz.laysValid_ren.g 4) w := by
  obtain ⟨W, ⟨_, L, hL, _, h1, h2⟩, hB, hs⟩ := h
  have T : Lib.Utf8Tabs (Tryz.laysValid_ren.g 3) (Tryz.laysValid_ren.g 4) W :=
    utf8Tabs_of_readsT (U8Types.of196 Tryz.laysValid) ⟨by kernel_rfl, by kernel_rfl, by kernel_rfl, by kernel_rfl, by kernel_rfl, by kernel_rfl, by kernel_rfl⟩ (Lib.laidMet.reads hL h1) (Lib.laidMet.reads hL h2)
  exact ⟨fun c hc => cell_kept (T.1 c hc) hs, fun i hi => ⟨cell_kept (T.2 i hi).1 hs, cell_kept (T.2 i hi).2 hs⟩⟩
theorem valid_any (s : ByteArray) (hs : s.size ≤ 9223372036854775807) (B : Nat) (w : World) (hT : Tabs B w) :
    Calls Tryz.prog 82 #[.string s] w fun e w' => e = .returned (.bool (Lib.validD s.data.toList)) ∧ Below w.heap.size w w' :=
  Any.utf8_ValidString Tryz.laysValid s w hs hT.utf8
end Go.Proofs.YtidokamjbglkbaaGreatDoor

/- IdCharacters. -/
namespace Go.Proofs.YtidokamjbglkbaaGreatDoor
open Go.RowKit

theorem infoInt : (Tryz.prog.info? tInt).map (fun i => (i.zero, i.size, i.bytes)) = some (some (.int .i64 0), 1, 8) := by kernel_rfl
theorem cell_new1 (w : World) (v : Value) (T : TypeId) : ∀ (j : Nat) (u : Value), ([v] : List Value)[j]? = some u → (w.alloc (.cells #[v] T)).cell? ((⟨w.heap.size, 0, none⟩ : Addr).add j) = some u := by
  intro j u hj
  match j, hj with
  | 0, hj => simp at hj; subst hj; simp [Addr.add]
theorem info_partsI : ∃ i, Tryz.prog.info? tInt = some i ∧ i.zero = some (.int .i64 0) ∧ i.size = 1 ∧ i.bytes = 8 := by
  obtain ⟨i, hi, he⟩ := Option.map_eq_some_iff.1 infoInt
  simp only [Prod.mk.injEq] at he
  exact ⟨i, hi, he.1, he.2.1, he.2.2⟩
theorem own_iter {w : World} {B e size n : Nat} {v : Value} {xs : List Value} {k : Nat} {s : ByteArray} {pos : Nat} (h : w.ownsRow B e size v n xs) (hk : w.heap[k]? = some (.stringIter s pos)) (pos' : Nat) : (w.iterAt k s pos').ownsRow B e size v n xs := by
  refine ⟨h.1, ?_⟩
  rcases h.2 with h0 | ⟨g, cap, cur, hv, hb, hg, rest⟩
  · exact .inl h0
  · refine .inr ⟨g, cap, cur, hv, hb, ?_, rest⟩
    rw [Lib.iterAt_other _ _ _ _ _ (fun e => by subst e; rw [hk] at hg; cases hg)]
    exact hg
theorem ne_iter {w : World} {B e size n : Nat} {v : Value} {xs : List Value} {k : Nat} {s : ByteArray} {pos : Nat} (h : w.ownsRow B e size v n xs) (hk : w.heap[k]? = some (.stringIter s pos)) : some k ≠ v.ownBlock := by
  rcases h.2 with ⟨rfl, _⟩ | ⟨g, cap, cur, rfl, hb, hg, rest⟩
  · simp [Value.ownBlock]
  · intro e
    simp only [Value.ownBlock, Option.some.injEq] at e
    subst e
    rw [hk] at hg
    cases hg

/-- Numbers, as cells. -/
def cv (L : List Nat) : List Value := L.map fun c => .int .i64 (c : Nat)

set_option maxHeartbeats 4000000 in
set_option maxRecDepth 100000 in
theorem chars_any (l : List UInt8) (hl : l.length ≤ 2147483647) (B : Nat) (w : World) (hT : Tabs B w) :
    Calls Tryz.prog 69 #[.string (bs l)] w fun e w' => Below w.heap.size w w' ∧ (Lib.validD l = false → e = .returned (.tuple #[.slice none 0 0, .bool false])) ∧
      (Lib.validD l = true → ∃ v, e = .returned (.tuple #[v, .bool true]) ∧ w'.ownsRow w.heap.size tInt 1 v (chars l).length (cv (chars l))) := by
  have HV := Lib.hid (valid_any (bs l) (by simp; omega) B w hT)
  cases hv : Lib.validD l with
  | false =>
    go_enter Tryz.func69, Tryz.ntmps69
    go_wp2_with (go_at_call 82; refine HV.out.mono ?_; rintro e w1 ⟨rfl, b1⟩; rw [bs_list, hv])
    go_ret2
    exact ⟨b1, fun _ => rfl, fun h => (by cases h)⟩
  | true =>
    go_enter Tryz.func69, Tryz.ntmps69
    go_wp2_with (go_at_call 82; refine HV.out.mono ?_; rintro e w1 ⟨rfl, b1⟩; rw [bs_list, hv])
    have e0 := World.ownsRow_lit (base := w.heap.size) (e := tInt) (size := 1) w1 #[] 0 b1.size (Nat.zero_le _) rfl
    have b2 := b1.alloc b1.size (.cells #[] tInt)
    go_loopg [4] l.length (fun n v wr => ∃ (pos : Nat) (done : List Nat), n = l.length - pos ∧ pos ≤ l.length ∧ chars l = done ++ chars (l.drop pos) ∧ done.length ≤ pos ∧ wr.ownsRow w.heap.size tInt 1 v done.length (cv done) ∧
      wr.heap[w1.heap.size + 1]? = some (.stringIter (bs l) pos) ∧ Below w.heap.size w wr)
    case atStart => 
      refine ⟨0, [], by omega, Nat.zero_le _, by simp, Nat.le_refl _, ?_, ?_, ?_⟩
      · exact e0.alloc _
      · have := World.iter_heap (w1.alloc (.cells #[] tInt)) (bs l) 0
        simpa using this
      · exact b2.alloc b2.size _
    case round =>
      obtain ⟨pos, done, rfl, hps, hch, hdl, hown, hit, hbw⟩ := hrel
      clear e0 b2
      by_cases hlt : pos < l.length
      · have hlt' : pos < (bs l).size := by simpa using hlt
        have hnx : ∀ ty, (Instr.next (.pointer (some ⟨w1.heap.size + 1, 0, none⟩)) true ty).run Tryz.prog wr = _ := fun ty => Lib.run_next_any_at wr (w1.heap.size + 1) (bs l) pos ty hit hlt'
        have hdec : Utf8.decode (bs l) pos = Lib.decodeL (l.drop pos) := (Lib.decodeL_drop (bs l) pos).symm
        rw [hdec] at hnx
        have hne : l.drop pos ≠ [] := by intro e; have := congrArg List.length e; simp at this; omega
        have hst := chars_step (l.drop pos) hne
        have hw1 := decode_pos (l.drop pos)
        have hw2 := Lib.decodeL_le (l.drop pos) hne
        have hcb := Lib.decodeL_rune (l.drop pos)
        obtain ⟨c, hc⟩ : ∃ c, (Lib.decodeL (l.drop pos)).1 = c := ⟨_, rfl⟩
        obtain ⟨wd, hwd⟩ : ∃ wd, (Lib.decodeL (l.drop pos)).2 = wd := ⟨_, rfl⟩
        rw [hc, hwd] at hnx hst
        rw [hwd] at hw1 hw2
        rw [hc] at hcb
        rw [List.length_drop] at hw2
        rw [List.drop_drop] at hst
        obtain ⟨ii, hii, hi0, hi1, hi2⟩ := info_partsI
        have own1 := own_iter hown hit (pos + wd)
        have it1 := Lib.iterAt_heap wr (w1.heap.size + 1) (bs l) pos (pos + wd) hit
        have bw1 := Lib.below_iterAt hbw (show w.heap.size ≤ w1.heap.size + 1 by have := b1.size; omega) (bs l) (pos + wd)
        generalize wr.iterAt (w1.heap.size + 1) (bs l) (pos + wd) = W1 at hnx own1 it1 bw1
        have own2 := own1.alloc (.cells #[.int .i64 (c : Int)] tInt)
        have it2 : (W1.alloc (.cells #[.int .i64 (c : Int)] tInt)).heap[w1.heap.size + 1]? = some (.stringIter (bs l) (pos + wd)) := (Below.heap_alloc _ _ _ (Array.getElem?_eq_some_iff.1 it1).1).trans it1
        have bw2 := bw1.alloc bw1.size (.cells #[.int .i64 (c : Int)] tInt)
        have p1 := Lib.hid (cell_new1 W1 (.int .i64 (c : Int)) tInt)
        have p3 : done.length + 1 ≤ maxLen := by unfold maxLen; omega
        have p4 : (done.length + 1) * 8 ≤ 140737488355328 := by omega
        have p5 := bw2.size
        have hne2 := ne_iter own2 it2
        have HCH := Lib.hid hch
        have HST := Lib.hid hst
        clear hown hit hbw hch hst hc hwd hne
        go_wp2_with (at_builtin; refine wpList_append_own _ rfl _ _ 45 rfl w.heap.size tInt ii (.int .i64 0) 1 8 Tryz.underlying45 hii hi0 hi1 hi2 rfl (by decide) _ _ _ rfl own2 ⟨W1.heap.size, 0, none⟩ 1 1 [.int .i64 (c : Int)] rfl rfl p1.out (by intro u hu; simp at hu; subst hu; rfl) p3 p4 p5 ?_)
        intro v5 w5 hown5 hg5 _
        have it5 : w5.heap[w1.heap.size + 1]? = some (.stringIter (bs l) (pos + wd)) := (hg5.block _ (Array.getElem?_eq_some_iff.1 it2).1 hne2).trans it2
        have bw5 := bw2.grown hg5 bw2.size (fun k e => (own2.lt k e).1)
        clear own2 it2 bw2 own1 it1 bw1 hnx
        go_wp2
        go_roundg (l.length - (pos + wd))
        case measure => omega
        case rel => exact ⟨pos + wd, done ++ [c], rfl, by omega, by rw [HCH.out, HST.out]; simp, by simp; omega, by simpa [cv] using hown5, it5, bw5⟩
      · have hpe : pos = l.length := by omega
        subst hpe
        have hnx : ∀ ty, (Instr.next (.pointer (some ⟨w1.heap.size + 1, 0, none⟩)) true ty).run Tryz.prog wr = _ := fun ty => Lib.run_next_end_at wr (w1.heap.size + 1) (bs l) l.length ty hit (by simp)
        have hd : chars l = done := by rw [hch]; simp [chars_nil]
        go_wp2
        go_ret2
        exact ⟨hbw, fun h => (by cases h), fun _ => ⟨_, rfl, by rw [hd]; exact hown⟩⟩
end Go.Proofs.YtidokamjbglkbaaGreatDoor

/- isRustName. -/
namespace Go.Proofs.YtidokamjbglkbaaGreatDoor
open Go.RowKit

theorem own_slice {w : World} {B : Nat} {e : TypeId} {size n : Nat} {v : Value} {xs : List Value} (h : w.ownsRow B e size v n xs) : ∃ a cap, v = .slice a n cap ∧ (0 < n → ∃ g, a = some ⟨g, 0, none⟩) := by
  rcases h.2 with ⟨hv, h0⟩ | ⟨g, cap, cur, hv, _⟩
  · exact ⟨none, 0, by rw [hv, h0], fun h => by omega⟩
  · exact ⟨_, _, hv, fun _ => ⟨g, rfl⟩⟩

theorem isIdB_N (n : Nat) (h : n < 128) : isIdB (UInt8.ofNat n) = isIdN n := by
  unfold isIdB isIdN
  rw [UInt8.toNat_ofNat_of_lt' (by show n < 256; omega)]

set_option maxHeartbeats 4000000 in
set_option maxRecDepth 100000 in
theorem name_any (l : List UInt8) (hl : l.length ≤ 2147483647) (B : Nat) (w : World) (hT : Tabs B w) :
    Calls Tryz.prog 45 #[.string (bs l)] w fun e w' => e = .returned (.bool (nameB l)) ∧ Below w.heap.size w w' := by
  have HP := Lib.hid (fun w => plainName_any l (by omega) w)
  have HC := Lib.hid (chars_any l hl B w hT)
  have HB := Lib.hid (fun c w => rustByte_any c w)
  obtain ⟨v, hv⟩ : ∃ v, nameB l = v := ⟨_, rfl⟩
  rw [hv]
  unfold nameB at hv
  cases hp : (l.all isIdB && !l.isEmpty) with
  | true =>
    rw [if_pos hp] at hv
    have hv' : decide ((l.length : Int) ≤ 1000) = v := by rw [← hv, decide_eq_decide]; omega
    have HV := Lib.hid hv'
    clear hv hv' HC
    go_enter Tryz.func45, Tryz.ntmps45
    go_wp2_with (go_at_call 68; refine (HP.out _).mono ?_; rintro e w1 ⟨rfl, rfl⟩; rw [hp])
    go_ret
    exact ⟨congrArg (fun x => Ending.returned (.bool x)) HV.out, Below.refl _ _⟩
  | false =>
    rw [if_neg (by rw [hp]; decide)] at hv
    cases hval : Lib.validD l with
    | false =>
      have hv' : v = false := by rw [← hv, hval]; rfl
      subst hv'
      clear hv
      go_enter Tryz.func45, Tryz.ntmps45
      go_wp2_with (first
        | (go_at_call 68; refine (HP.out _).mono ?_; rintro e w1 ⟨rfl, rfl⟩; rw [hp])
        | (go_at_call 69; refine HC.out.mono ?_; rintro e w2 ⟨b2, hno, _⟩; obtain rfl := hno hval; clear hno))
      go_ret
      exact ⟨rfl, b2⟩
    | true =>
      rw [hval, Bool.true_and] at hv
      obtain ⟨L, hL⟩ : ∃ L, chars l = L := ⟨_, rfl⟩
      rw [hL] at hv HC
      by_cases h0 : L.length = 0
      · have hv' : v = false := by rw [← hv, h0]; rfl
        subst hv'
        clear hv
        go_enter Tryz.func45, Tryz.ntmps45
        go_wp2_with (first
          | (go_at_call 68; refine (HP.out _).mono ?_; rintro e w1 ⟨rfl, rfl⟩; rw [hp])
          | (go_at_call 69; refine HC.out.mono ?_; rintro e w2 ⟨b2, _, hyes⟩; obtain ⟨x, rfl, own⟩ := hyes hval; obtain ⟨xa, xc, rfl, _⟩ := own_slice own; clear hyes own; rw [h0]))
        go_ret
        exact ⟨rfl, b2⟩
      · have h0' : ((L.length : Int) == 0) = false := by rw [beq_eq_false_iff_ne]; omega
        by_cases h60 : L.length ≤ 60
        · have h60' : decide ((60 : Int) < (L.length : Int)) = false := by simp; omega
          have HB2 : Hid (∀ (n : Nat) (w : World), n < 128 → Calls Tryz.prog 70 #[.int .u8 n] w fun e w' => e = .returned (.bool (isIdN n)) ∧ w = w') := Lib.hid (by
            intro n w hn
            have := rustByte_any (UInt8.ofNat n) w
            rw [isIdB_N n hn, UInt8.toNat_ofNat_of_lt' (by show n < 256; omega)] at this
            exact this)
          have hv' : L.all charOk = v := by rw [← hv]; simp [h0, h60]
          have HV := Lib.hid hv'
          clear hv hv'
          go_enter Tryz.func45, Tryz.ntmps45
          go_wp2_with (first
            | (go_at_call 68; refine (HP.out _).mono ?_; rintro e w1 ⟨rfl, rfl⟩; rw [hp])
            | (go_at_call 69; refine HC.out.mono ?_; rintro e w2 ⟨b2, _, hyes⟩; obtain ⟨x, rfl, own⟩ := hyes hval; obtain ⟨xa, xc, rfl, hxa⟩ := own_slice own; clear hyes))
          obtain ⟨g, rfl⟩ := hxa (by omega)
          have HCL := Lib.hid (fun j (hj : j < L.length) => own.cells (g := g) rfl j (.int .i64 (L[j] : Nat)) (by simp [cv, hj]))
          clear own
          go_loopg [6, 31] L.length (fun n _ i wr => ∃ j : Nat, n = L.length - j ∧ j ≤ L.length ∧ i = .int .i64 j ∧ (∀ c ∈ L.take j, charOk c = true) ∧ wr = w2)
          case atStart => exact ⟨0, by omega, Nat.zero_le _, rfl, by simp, rfl⟩
          case round =>
            obtain ⟨j, rfl, hj, rfl, hq, rfl⟩ := hrel
            have HQ := Lib.hid hq
            clear hq
            by_cases hlt : j < L.length
            · have hcell := HCL.out j hlt
              have hin := List.getElem_mem hlt
              obtain ⟨c, hc⟩ : ∃ c, L[j] = c := ⟨_, rfl⟩
              rw [hc] at hcell hin
              have hcell' : wr.cell? ⟨g, j, none⟩ = some (.int .i64 (c : Int)) := by rw [Go.WideShapes.add_plain] at hcell; simpa using hcell
              clear hcell
              have REL : charOk c = true → ∀ x ∈ L.take (j + 1), charOk x = true := by
                intro hok x hx
                rw [List.take_succ_eq_append_getElem hlt] at hx
                rcases List.mem_append.1 hx with hx | hx
                · exact HQ.out x hx
                · simp at hx; subst hx; rw [hc]; exact hok
              have REL := Lib.hid REL
              by_cases h128 : c < 128
              · have h128' : decide ((c : Int) < 128) = true := by simp; omega
                cases hid : isIdN c with
                | false =>
                  have hv : v = false := by
                    rw [← HV.out]
                    exact List.all_eq_false.2 ⟨c, hin, by simp [charOk, hid]; omega⟩
                  subst hv
                  clear HQ REL hin hc
                  go_wp2_with (go_at_call 70; refine (HB2.out c _ h128).mono ?_; rintro e w3 ⟨rfl, rfl⟩; rw [hid])
                  go_ret
                  exact ⟨rfl, b2⟩
                | true =>
                  have hok : Hid (charOk c = true) := Lib.hid (by simp [charOk, hid])
                  clear HQ hin hc
                  go_wp2_with (go_at_call 70; refine (HB2.out c _ h128).mono ?_; rintro e w3 ⟨rfl, rfl⟩; rw [hid])
                  go_roundg (L.length - (j + 1))
                  case measure => omega
                  case rel => exact ⟨j + 1, rfl, by omega, by go_num, REL.out hok.out, rfl⟩
              · have h128' : decide ((c : Int) < 128) = false := by simp; omega
                have hok : Hid (charOk c = true) := Lib.hid (by simp [charOk]; omega)
                clear HQ hin hc
                go_wp2_with fail
                go_roundg (L.length - (j + 1))
                case measure => omega
                case rel => exact ⟨j + 1, rfl, by omega, by go_num, REL.out hok.out, rfl⟩
            · have hjl : j = L.length := by omega
              subst hjl
              have hq := HQ.out
              rw [List.take_length] at hq
              have hv : v = true := by rw [← HV.out]; exact List.all_eq_true.2 hq
              subst hv
              clear hq
              go_wp2_with fail
              go_ret
              exact ⟨rfl, b2⟩
        · have h60' : decide ((60 : Int) < (L.length : Int)) = true := by simp; omega
          have hv' : v = false := by rw [← hv]; simp [h60]
          subst hv'
          clear hv
          go_enter Tryz.func45, Tryz.ntmps45
          go_wp2_with (first
            | (go_at_call 68; refine (HP.out _).mono ?_; rintro e w1 ⟨rfl, rfl⟩; rw [hp])
            | (go_at_call 69; refine HC.out.mono ?_; rintro e w2 ⟨b2, _, hyes⟩; obtain ⟨x, rfl, own⟩ := hyes hval; obtain ⟨xa, xc, rfl, _⟩ := own_slice own; clear hyes own))
          go_ret
          exact ⟨rfl, b2⟩
end Go.Proofs.YtidokamjbglkbaaGreatDoor

/- isRustABI. -/
namespace Go.Proofs.YtidokamjbglkbaaGreatDoor
open Go.RowKit

/-- A byte that may stand at place i of an ABI. -/
def abiAt (i : Nat) (c : UInt8) : Bool := if i = 0 then lowB c else abiTail c
theorem getD_at {l : List UInt8} {i : Nat} (h : i < l.length) : l.getD i 0 = l[i] := by simp [List.getD_eq_getElem?_getD, h]
theorem abiB_at {l : List UInt8} (h0 : l ≠ []) (hC : l ≠ [67]) : (abiB l = true ↔ (∀ i, i < l.length → abiAt i (l.getD i 0) = true) ∧ l.length ≤ 20) := by
  unfold abiB
  rw [decide_eq_false h0, decide_eq_false hC, Bool.false_or, Bool.false_or]
  cases l with
  | nil => exact absurd rfl h0
  | cons c l =>
    simp only [Bool.and_eq_true, decide_eq_true_eq, List.all_eq_true]
    constructor
    · rintro ⟨h1, h2, h3⟩
      refine ⟨fun i hi => ?_, h3⟩
      cases i with
      | zero => simpa [abiAt] using h1
      | succ i =>
        have hi' : i < l.length := by simpa using hi
        simp only [abiAt, List.getD_cons_succ]
        rw [if_neg (by omega), getD_at hi']
        exact h2 _ (List.getElem_mem hi')
    · rintro ⟨h1, h3⟩
      refine ⟨by simpa [abiAt] using h1 0 (by simp), fun x hx => ?_, h3⟩
      obtain ⟨i, hi, rfl⟩ := List.mem_iff_getElem.1 hx
      have := h1 (i + 1) (by simp; omega)
      simp only [abiAt, List.getD_cons_succ] at this
      rw [if_neg (by omega), getD_at hi] at this
      exact this
theorem abiAt_0 {c : UInt8} {n : Nat} {g : Bool} (hn : c.toNat = n) (h : abiAt 0 c = g) : (g = true ↔ 97 ≤ n ∧ n ≤ 122) := by
  subst hn; subst h; simp [abiAt, lowB]
theorem abiAt_1 {c : UInt8} {n j : Nat} {g : Bool} (hj : j ≠ 0) (hn : c.toNat = n) (h : abiAt j c = g) : (g = true ↔ (97 ≤ n ∧ n ≤ 122) ∨ n = 45 ∨ (48 ≤ n ∧ n ≤ 57)) := by
  subst hn; subst h; simp [abiAt, hj, abiTail, lowB]

set_option maxHeartbeats 8000000 in
set_option maxRecDepth 100000 in
theorem abi_any (l : List UInt8) (hl : l.length ≤ 2147483647) (w : World) : Calls Tryz.prog 49 #[.string (bs l)] w fun e w' => e = .returned (.bool (abiB l)) ∧ w = w' := by
  by_cases h0 : l = []
  · subst h0
    have ht : (bs []).toList.isEmpty = true := by rw [ByteArray.toList_eq]; rfl
    go_enter Tryz.func49, Tryz.ntmps49
    go_wp2
    go_ret
    exact ⟨rfl, rfl⟩
  · have ht : (bs l).toList.isEmpty = false := by rw [ByteArray.toList_eq]; cases l with | nil => exact absurd rfl h0 | cons a l => rfl
    by_cases hC : l = [67]
    · subst hC
      have h67 : ((bs [67]).toList == [67]) = true := by rw [ByteArray.toList_eq]; rfl
      go_enter Tryz.func49, Tryz.ntmps49
      go_wp2
      go_ret
      exact ⟨rfl, rfl⟩
    · have h67 : ((bs l).toList == [67]) = false := by rw [ByteArray.toList_eq, beq_eq_false_iff_ne]; exact hC
      obtain ⟨v, hv⟩ : ∃ v, abiB l = v := ⟨_, rfl⟩
      rw [hv]
      have hv' := abiB_at h0 hC
      rw [hv] at hv'
      have HV := Lib.hid hv'
      clear hv hv' h0 hC
      go_enter Tryz.func49, Tryz.ntmps49
      go_wp2_with fail
      go_loopg [3, 4] l.length (fun n i _ wr => ∃ j : Nat, n = l.length - j ∧ j ≤ l.length ∧ i = .int .i64 j ∧ (∀ i, i < j → abiAt i (l.getD i 0) = true) ∧ wr = w)
      case atStart => exact ⟨0, by omega, Nat.zero_le _, rfl, fun i h => by omega, rfl⟩
      case round =>
        obtain ⟨j, rfl, hj, rfl, hq, rfl⟩ := hrel
        by_cases hlt : j < l.length
        · have hlt' : j < (bs l).size := by simpa using hlt
          obtain ⟨g, hg⟩ : ∃ g, abiAt j (l[j]'hlt) = g := ⟨_, rfl⟩
          have REL0 : g = true → ∀ i, i < j + 1 → abiAt i (l.getD i 0) = true := by
            intro hgt i hij
            by_cases e : i = j
            · subst e; rw [getD_at hlt, hg, hgt]
            · exact hq i (by omega)
          have BAD0 : g = false → v = false := by
            intro hgf
            cases hvv : v with
            | false => rfl
            | true =>
              have := (HV.out.1 hvv).1 j hlt
              rw [getD_at hlt, hg, hgf] at this
              cases this
          clear hq
          by_cases hj0 : j = 0
          · subst hj0
            have hg := abiAt_0 rfl hg
            cases g with
            | false =>
              have BAD := Lib.hid (BAD0 rfl)
              have hg' : ¬ (97 ≤ (l[0]'hlt).toNat ∧ (l[0]'hlt).toNat ≤ 122) := fun h => by have := hg.2 h; cases this
              clear REL0 BAD0 hg
              have hg := hg'
              clear hg'
              have hcl : (l[0]'hlt).toNat ≤ 44 ∨ (l[0]'hlt).toNat = 45 ∨ (46 ≤ (l[0]'hlt).toNat ∧ (l[0]'hlt).toNat ≤ 47) ∨ (48 ≤ (l[0]'hlt).toNat ∧ (l[0]'hlt).toNat ≤ 57) ∨ (58 ≤ (l[0]'hlt).toNat ∧ (l[0]'hlt).toNat ≤ 96) ∨ (97 ≤ (l[0]'hlt).toNat ∧ (l[0]'hlt).toNat ≤ 122) ∨ 123 ≤ (l[0]'hlt).toNat := by omega
              rcases hcl with h | h | h | h | h | h | h
              all_goals first
                | (exfalso; omega)
                | skip
              all_goals
                first
                  | have F1 : decide (((l[0]'hlt).toNat : Int) < 97) = true := decide_eq_true (by omega)
                  | have F1 : decide (((l[0]'hlt).toNat : Int) < 97) = false := decide_eq_false (by omega)
                first
                  | have F2 : decide ((122 : Int) < ((l[0]'hlt).toNat : Int)) = true := decide_eq_true (by omega)
                  | have F2 : decide ((122 : Int) < ((l[0]'hlt).toNat : Int)) = false := decide_eq_false (by omega)
                first
                  | have F3 : decide (((l[0]'hlt).toNat : Int) < 48) = true := decide_eq_true (by omega)
                  | have F3 : decide (((l[0]'hlt).toNat : Int) < 48) = false := decide_eq_false (by omega)
                first
                  | have F4 : decide ((57 : Int) < ((l[0]'hlt).toNat : Int)) = true := decide_eq_true (by omega)
                  | have F4 : decide ((57 : Int) < ((l[0]'hlt).toNat : Int)) = false := decide_eq_false (by omega)
                first
                  | have F5 : (((l[0]'hlt).toNat : Int) != 45) = true := bne_iff_ne.2 (by omega)
                  | have F5 : (((l[0]'hlt).toNat : Int) != 45) = false := bne_eq_false_iff_eq.2 (by omega)
                clear h hg
                go_wp2_with fail
                go_ret
                exact ⟨by rw [BAD.out]; rfl, rfl⟩
            | true =>
              have REL := Lib.hid (REL0 rfl)
              have hg' := hg.1 rfl
              clear REL0 BAD0 hg
              have hg := hg'
              clear hg'
              have hcl : (l[0]'hlt).toNat ≤ 44 ∨ (l[0]'hlt).toNat = 45 ∨ (46 ≤ (l[0]'hlt).toNat ∧ (l[0]'hlt).toNat ≤ 47) ∨ (48 ≤ (l[0]'hlt).toNat ∧ (l[0]'hlt).toNat ≤ 57) ∨ (58 ≤ (l[0]'hlt).toNat ∧ (l[0]'hlt).toNat ≤ 96) ∨ (97 ≤ (l[0]'hlt).toNat ∧ (l[0]'hlt).toNat ≤ 122) ∨ 123 ≤ (l[0]'hlt).toNat := by omega
              rcases hcl with h | h | h | h | h | h | h
              all_goals first
                | (exfalso; omega)
                | skip
              all_goals
                first
                  | have F1 : decide (((l[0]'hlt).toNat : Int) < 97) = true := decide_eq_true (by omega)
                  | have F1 : decide (((l[0]'hlt).toNat : Int) < 97) = false := decide_eq_false (by omega)
                first
                  | have F2 : decide ((122 : Int) < ((l[0]'hlt).toNat : Int)) = true := decide_eq_true (by omega)
                  | have F2 : decide ((122 : Int) < ((l[0]'hlt).toNat : Int)) = false := decide_eq_false (by omega)
                first
                  | have F3 : decide (((l[0]'hlt).toNat : Int) < 48) = true := decide_eq_true (by omega)
                  | have F3 : decide (((l[0]'hlt).toNat : Int) < 48) = false := decide_eq_false (by omega)
                first
                  | have F4 : decide ((57 : Int) < ((l[0]'hlt).toNat : Int)) = true := decide_eq_true (by omega)
                  | have F4 : decide ((57 : Int) < ((l[0]'hlt).toNat : Int)) = false := decide_eq_false (by omega)
                first
                  | have F5 : (((l[0]'hlt).toNat : Int) != 45) = true := bne_iff_ne.2 (by omega)
                  | have F5 : (((l[0]'hlt).toNat : Int) != 45) = false := bne_eq_false_iff_eq.2 (by omega)
                clear h hg
                go_wp2_with fail
                go_roundg (l.length - (0 + 1))
                case measure => omega
                case rel => exact ⟨0 + 1, rfl, by omega, by go_num, REL.out, rfl⟩
          · have hg := abiAt_1 hj0 rfl hg
            have f_j : ((j : Int) == 0) = false := by rw [beq_eq_false_iff_ne]; omega
            cases g with
            | false =>
              have BAD := Lib.hid (BAD0 rfl)
              have hg' : ¬ ((97 ≤ (l[j]'hlt).toNat ∧ (l[j]'hlt).toNat ≤ 122) ∨ (l[j]'hlt).toNat = 45 ∨ (48 ≤ (l[j]'hlt).toNat ∧ (l[j]'hlt).toNat ≤ 57)) := fun h => by have := hg.2 h; cases this
              clear REL0 BAD0 hg
              have hg := hg'
              clear hg'
              have hcl : (l[j]'hlt).toNat ≤ 44 ∨ (l[j]'hlt).toNat = 45 ∨ (46 ≤ (l[j]'hlt).toNat ∧ (l[j]'hlt).toNat ≤ 47) ∨ (48 ≤ (l[j]'hlt).toNat ∧ (l[j]'hlt).toNat ≤ 57) ∨ (58 ≤ (l[j]'hlt).toNat ∧ (l[j]'hlt).toNat ≤ 96) ∨ (97 ≤ (l[j]'hlt).toNat ∧ (l[j]'hlt).toNat ≤ 122) ∨ 123 ≤ (l[j]'hlt).toNat := by omega
              rcases hcl with h | h | h | h | h | h | h
              all_goals first
                | (exfalso; omega)
                | skip
              all_goals
                first
                  | have F1 : decide (((l[j]'hlt).toNat : Int) < 97) = true := decide_eq_true (by omega)
                  | have F1 : decide (((l[j]'hlt).toNat : Int) < 97) = false := decide_eq_false (by omega)
                first
                  | have F2 : decide ((122 : Int) < ((l[j]'hlt).toNat : Int)) = true := decide_eq_true (by omega)
                  | have F2 : decide ((122 : Int) < ((l[j]'hlt).toNat : Int)) = false := decide_eq_false (by omega)
                first
                  | have F3 : decide (((l[j]'hlt).toNat : Int) < 48) = true := decide_eq_true (by omega)
                  | have F3 : decide (((l[j]'hlt).toNat : Int) < 48) = false := decide_eq_false (by omega)
                first
                  | have F4 : decide ((57 : Int) < ((l[j]'hlt).toNat : Int)) = true := decide_eq_true (by omega)
                  | have F4 : decide ((57 : Int) < ((l[j]'hlt).toNat : Int)) = false := decide_eq_false (by omega)
                first
                  | have F5 : (((l[j]'hlt).toNat : Int) != 45) = true := bne_iff_ne.2 (by omega)
                  | have F5 : (((l[j]'hlt).toNat : Int) != 45) = false := bne_eq_false_iff_eq.2 (by omega)
                clear h hg
                go_wp2_with fail
                go_ret
                exact ⟨by rw [BAD.out]; rfl, rfl⟩
            | true =>
              have REL := Lib.hid (REL0 rfl)
              have hg' := hg.1 rfl
              clear REL0 BAD0 hg
              have hg := hg'
              clear hg'
              have hcl : (l[j]'hlt).toNat ≤ 44 ∨ (l[j]'hlt).toNat = 45 ∨ (46 ≤ (l[j]'hlt).toNat ∧ (l[j]'hlt).toNat ≤ 47) ∨ (48 ≤ (l[j]'hlt).toNat ∧ (l[j]'hlt).toNat ≤ 57) ∨ (58 ≤ (l[j]'hlt).toNat ∧ (l[j]'hlt).toNat ≤ 96) ∨ (97 ≤ (l[j]'hlt).toNat ∧ (l[j]'hlt).toNat ≤ 122) ∨ 123 ≤ (l[j]'hlt).toNat := by omega
              rcases hcl with h | h | h | h | h | h | h
              all_goals first
                | (exfalso; omega)
                | skip
              all_goals
                first
                  | have F1 : decide (((l[j]'hlt).toNat : Int) < 97) = true := decide_eq_true (by omega)
                  | have F1 : decide (((l[j]'hlt).toNat : Int) < 97) = false := decide_eq_false (by omega)
                first
                  | have F2 : decide ((122 : Int) < ((l[j]'hlt).toNat : Int)) = true := decide_eq_true (by omega)
                  | have F2 : decide ((122 : Int) < ((l[j]'hlt).toNat : Int)) = false := decide_eq_false (by omega)
                first
                  | have F3 : decide (((l[j]'hlt).toNat : Int) < 48) = true := decide_eq_true (by omega)
                  | have F3 : decide (((l[j]'hlt).toNat : Int) < 48) = false := decide_eq_false (by omega)
                first
                  | have F4 : decide ((57 : Int) < ((l[j]'hlt).toNat : Int)) = true := decide_eq_true (by omega)
                  | have F4 : decide ((57 : Int) < ((l[j]'hlt).toNat : Int)) = false := decide_eq_false (by omega)
                first
                  | have F5 : (((l[j]'hlt).toNat : Int) != 45) = true := bne_iff_ne.2 (by omega)
                  | have F5 : (((l[j]'hlt).toNat : Int) != 45) = false := bne_eq_false_iff_eq.2 (by omega)
                clear h hg
                go_wp2_with fail
                go_roundg (l.length - (j + 1))
                case measure => omega
                case rel => exact ⟨j + 1, rfl, by omega, by go_num, REL.out, rfl⟩
        · have hjl : j = l.length := by omega
          subst hjl
          have e2 : decide ((l.length : Int) ≤ 20) = v := by
            rw [Bool.eq_iff_iff, decide_eq_true_eq, HV.out]
            constructor
            · intro h; exact ⟨fun i hi => hq i hi, by omega⟩
            · rintro ⟨_, h⟩; omega
          have HE := Lib.hid e2
          clear hq e2
          go_wp2_with fail
          go_ret
          exact ⟨by rw [← HE.out]; rfl, rfl⟩
end Go.Proofs.YtidokamjbglkbaaGreatDoor

