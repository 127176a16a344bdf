/- The look at a list of trees. -/
import Derived.Test.YtdapnoocmpbijaaGreatDoorY23
import Derived.Test.YtdapnoocmpbijaaGreatDoorY05
import Derived.Deep.LoopGhost
namespace Go.Proofs.YtdapnoocmpbijaaGreatDoor
open Go.RowKit

set_option maxHeartbeats 2000000 in
set_option maxRecDepth 100000 in
theorem all_any (M B b want deep bound left : Nat) (w : World) (a : Option Addr) (m cap : Nat) (V : Nat → Array Value) (ks : List RT) (hk : ks.length = m) (hV : KidsIn B w a m V) (hT : ∀ i (h : i < ks.length), TreeAt M B w (V i) ks[i]) (hP : ∀ x ∈ ks, PieceC x)
    (hM : M ≤ 2147483647) (hm : m ≤ M) (ht : Tabs B w) (hB : B ≤ b) (hw : B ≤ w.heap.size) (hl : Lk b left w) (h1 : left ≤ 300) (h2 : want ≤ 5) (h3 : deep ≤ 24) (h4 : bound ≤ 20) :
    Calls Tryz.prog 56 #[.pointer (some ⟨b, 0, none⟩), .slice a m cap, .int .i64 want, .int .i64 deep, .int .i64 bound] w (LkP (∀ x ∈ ks, Rt bound x ∧ fitsK x.kd want) (sizes ks) left B b w) := by
  have HS := Lib.hid (LkS.mk hl (KeptM.refl w) ht hw : LkS M B b w left w)
  have HK := Lib.hid (fun i h => kid_of hk hV hT i h)
  have hmx : m ≤ 9223372036854775807 := by omega
  clear hV hT ht hl
  go_enter Tryz.func56, Tryz.ntmps56
  go_wp2_with fail
  go_loopg [12, 15] m (fun n _ i wr => ∃ j : Nat, n = m - j ∧ j ≤ m ∧ i = .int .i64 j ∧ (∀ x ∈ ks.take j, Rt bound x ∧ fitsK x.kd want) ∧ sizes (ks.take j) ≤ left ∧ LkS M B b w ((left : Int) - (sizes (ks.take j) : Nat)) wr)
  case atStart => exact ⟨0, by omega, Nat.zero_le _, rfl, by simp, by simp [sizes], by simpa [sizes] using HS.out⟩
  case round =>
    obtain ⟨j, rfl, hj, rfl, hq, hs, S⟩ := hrel
    by_cases hlt : j < m
    · obtain ⟨kb, off, kd1, c1, nm1, n1, fl1, ka1, km1, kc1, rfl, K⟩ := HK.out j (by omega)
      have K1 := K.keep (S.same hw)
      obtain ⟨_, k0, k1, k2, k3, k4, k5, _⟩ := K1
      have S1 := S.alloc (.cells (rv kd1 c1 nm1 n1 fl1 (.slice ka1 km1 kc1)) tRu)
      have e1 : ((left : Int) - (sizes (ks.take j) : Nat)) = ((left - sizes (ks.take j) : Nat) : Int) := by omega
      rw [e1] at S1
      have HC := Lib.hid ((K.keep (S1.same hw)).piece (hP _ (List.getElem_mem (by omega))) hM S1.tabs hB S1.hw S1.look (show left - sizes (ks.take j) ≤ 300 by omega) h2 h3 h4)
      have HS1 := Lib.hid S1
      have HQ := Lib.hid hq
      have HSZ := Lib.hid hs
      clear S1 S K hq e1
      go_wp2_with fail
      refine HC.out.mono ?_
      rintro e w1 ⟨bl, l, rfl, hb, hl1, kk⟩
      have S2 := HS1.out.step kk hl1
      clear kk HC
      cases bl with
      | false =>
        clear hb
        go_wp2
        go_ret
        exact LkP.no S2.look S2.kept
      | true =>
        obtain ⟨hq1, hn1, rfl⟩ := hb rfl
        have HQ1 := Lib.hid hq1
        have hsz : sizes (ks.take (j + 1)) = sizes (ks.take j) + size ks[j] := by rw [List.take_succ_eq_append_getElem (by omega), sizes_append]; simp [sizes]
        clear hq1
        go_wp2_with fail
        go_roundg (m - (j + 1))
        case measure => omega
        case rel =>
          refine ⟨j + 1, rfl, by omega, by go_num, ?_, by omega, ?_⟩
          · intro x hx
            rw [List.take_succ_eq_append_getElem (by omega)] at hx
            rcases List.mem_append.1 hx with hx | hx
            · exact HQ.out x hx
            · simp at hx; subst hx; exact HQ1.out
          · have e2 : ((left : Int) - (sizes (ks.take (j + 1)) : Nat)) = ((left - sizes (ks.take j) : Nat) : Int) - (size ks[j] : Nat) := by omega
            rw [e2]; exact S2
    · have hjm : j = m := by omega
      subst hjm
      have HQ := Lib.hid hq
      have HSZ := Lib.hid hs
      clear hq hs
      go_wp2_with fail
      go_ret
      have e3 : ks.take ks.length = ks := List.take_length
      have hq := HQ.out
      have hs := HSZ.out
      have S' := S
      rw [← hk, e3] at hq hs S'
      exact LkP.yes hq hs S'.look S'.kept
theorem kids_tail {B : Nat} {w : World} {kb off m : Nat} {V : Nat → Array Value} (h : KidsIn B w (some ⟨kb, off, none⟩) m V) (hm : 1 ≤ m) : KidsIn B w (some ⟨kb, off + 6, none⟩) (m - 1) fun i => V (i + 1) := by
  intro h0
  obtain ⟨b, o, e, hlt, hc⟩ := h (by omega)
  simp only [Option.some.injEq, Addr.mk.injEq, and_true] at e
  obtain ⟨rfl, rfl⟩ := e
  refine ⟨kb, off + 6, rfl, hlt, fun i hi => ⟨(hc (i + 1) (by omega)).1, fun j hj => ?_⟩⟩
  rw [← (hc (i + 1) (by omega)).2 j hj]
  congr 2; omega
theorem kids_init {B : Nat} {w : World} {a : Option Addr} {m m' : Nat} {V : Nat → Array Value} (h : KidsIn B w a m V) (hm : m' ≤ m) : KidsIn B w a m' V := by
  intro h0
  obtain ⟨b, o, e, hlt, hc⟩ := h (by omega)
  exact ⟨b, o, e, hlt, fun i hi => hc i (by omega)⟩
theorem trees_tail {M B : Nat} {w : World} {V : Nat → Array Value} {k : RT} {ks : List RT} (h : ∀ i (hi : i < (k :: ks).length), TreeAt M B w (V i) (k :: ks)[i]) : ∀ i (hi : i < ks.length), TreeAt M B w (V (i + 1)) ks[i] := by
  intro i hi
  have := h (i + 1) (by simp; omega)
  simpa using this
theorem trees_init {M B : Nat} {w : World} {V : Nat → Array Value} {ks : List RT} {x : RT} (h : ∀ i (hi : i < (ks ++ [x]).length), TreeAt M B w (V i) (ks ++ [x])[i]) : ∀ i (hi : i < ks.length), TreeAt M B w (V i) ks[i] := by
  intro i hi
  have := h i (by simp; omega)
  rwa [List.getElem_append_left hi] at this
/-- all, wherever the look goes on. -/
theorem all_call {M B b : Nat} {cs : Array Value} {w0 : World} {want deep bound : Nat} {a : Option Addr} {m : Nat} (cap : Nat) {V : Nat → Array Value} {ks : List RT} (hk : ks.length = m) (hV : KidsIn B w0 a m V) (hT : ∀ i (h : i < ks.length), TreeAt M B w0 (V i) ks[i]) (hP : ∀ x ∈ ks, PieceC x)
    (hM : M ≤ 2147483647) (hm : m ≤ M) (hB : B ≤ b) (hw : B ≤ w0.heap.size) (h2 : want ≤ 5) (h3 : deep ≤ 24) (h4 : bound ≤ 20) (w : World) (l : Nat) (h : LkX M B b cs w0 l w) (hl : l ≤ 300) :
    Calls Tryz.prog 56 #[.pointer (some ⟨b, 0, none⟩), .slice a m cap, .int .i64 want, .int .i64 deep, .int .i64 bound] w (LkP (∀ x ∈ ks, Rt bound x ∧ fitsK x.kd want) (sizes ks) l B b w) :=
  all_any M B b want deep bound l w a m cap V ks hk (hV.mono (Nat.le_refl _) (h.same hw)) (fun i hi => (hT i hi).mono (Nat.le_refl _) (h.same hw)) hP hM hm h.base.tabs hB h.base.hw h.base.look hl h2 h3 h4
end Go.Proofs.YtdapnoocmpbijaaGreatDoor

/- What a part of the writer does, one step after the other; arguments. -/
namespace Go.Proofs.YtdapnoocmpbijaaGreatDoor
open Go.RowKit

/-- What a tree makes of a writer, its own text not counted. -/
def WR.body (r : WR) (t : RT) : WR := ⟨r.out ++ enc idW t, r.plain, emp t, r.bound, r.bounds ++ bnds idW r.out.length r.bound t, r.cnt + (size t - 1)⟩
theorem bs_cons (c : UInt8) (l : List UInt8) : (⟨#[c]⟩ : ByteArray) ++ bs l = bs (c :: l) := by
  have : (⟨#[c]⟩ : ByteArray) = bs [c] := rfl
  rw [this, bs_append]; rfl
theorem out_put (r : WR) (l : List UInt8) : (r.put l).out.length ≤ r.out.length + l.length + 1 := by
  unfold WR.put
  split
  · omega
  · simp only [List.length_append, sepOf]
    split <;> simp <;> omega

/-- Room for n bytes. -/
def roomy (r : WR) (n : Nat) : Prop := r.out.length + n ≤ 900000000 ∧ r.cnt + n ≤ 900000000
theorem roomy.le {r : WR} {n n' : Nat} (h : roomy r n) (hn : n' ≤ n) : roomy r n' := by unfold roomy at *; omega
theorem roomy.put {r : WR} {n : Nat} {l : List UInt8} (k : Nat) (h : roomy r (n + k)) (hl : l.length + 1 ≤ k) : roomy (r.put l) n := by
  have h1 := out_put r l
  have h2 := (WR.put_bound r l).2.2.2
  unfold roomy at *
  omega
theorem roomy.name {r : WR} {n : Nat} {nm : List UInt8} (h : roomy r (n + 1010)) (hm : nameB nm = true ∨ nm = []) : roomy (r.name nm) n := by
  unfold WR.name
  split
  · exact roomy.put (l := [48]) 1010 h (by decide)
  · exact roomy.put 1010 h (by have := idW_len' hm; omega)
theorem roomy.bind {r : WR} {n : Nat} {c : Nat} (h : roomy r (n + 15)) (hc : c ≤ 20) : roomy (r.bind c) n := by
  have := (bb_binder c hc).2
  exact roomy.put (l := binder c) 15 h (by omega)
def EncL (t : RT) : Prop := (enc idW t).length ≤ 1100 * size t
theorem roomy.tree {r : WR} {n : Nat} {t : RT} (h : roomy r (n + 1200 * size t)) (he : EncL t) : roomy (r.tree t) n := by
  unfold roomy WR.tree EncL at *
  simp only [List.length_append]
  omega
theorem len_le_sizes (us : List RT) : us.length ≤ sizes us := by
  induction us with
  | nil => simp
  | cons u us ih => have := size_pos u; simp only [List.length_cons, sizes]; omega
theorem encs_le {us : List RT} (hu : ∀ t ∈ us, EncL t) : (encs idW us).length ≤ 1100 * sizes us := by
  induction us with
  | nil => simp [encs]
  | cons u us ih =>
    have h1 := hu u (by simp)
    have h2 := ih fun t ht => hu t (List.mem_cons_of_mem _ ht)
    unfold EncL at h1
    simp only [encs, sizes, List.length_append]; omega
theorem roomy.trees {r : WR} {n : Nat} {ks : List RT} (h : roomy r (n + 1200 * sizes ks)) (he : ∀ t ∈ ks, EncL t) : roomy (r.trees ks) n := by
  have := encs_le he
  rw [WR.trees_eq]
  unfold roomy at *
  simp only [List.length_append]
  omega
theorem argMark_len (k : Int) : (argMark k).length ≤ 1 := by unfold argMark; split <;> simp
theorem encsA_le {us : List RT} (hu : ∀ t ∈ us, EncL t) : (encsA idW us).length ≤ 1101 * sizes us := by
  induction us with
  | nil => simp [encsA]
  | cons u us ih =>
    have h1 := hu u (by simp)
    have h2 := ih fun t ht => hu t (List.mem_cons_of_mem _ ht)
    have h3 := argMark_len u.kd
    have h4 := size_pos u
    unfold EncL at h1
    simp only [encsA, sizes, List.length_append]; omega
theorem roomy.argus {r : WR} {n : Nat} {ks : List RT} (h : roomy r (n + 1200 * sizes ks)) (he : ∀ t ∈ ks, EncL t) : roomy (r.argus ks) n := by
  have := encsA_le he
  rw [WR.argus_eq]
  unfold roomy at *
  simp only [List.length_append]
  omega
theorem roomy.room {r : WR} {s : Nat} (h : roomy r (1200 * s)) : room r s := h

/-- A step: f, called with these arguments, makes r to r'. -/
def Does (B b : Nat) (cs : Array Value) (w0 : World) (r : WR) (f : FuncId) (args : Array Value) (r' : WR) : Prop :=
  ∀ w', WX B b cs w0 r w' → Calls Tryz.prog f args w' fun e w'' => e = .returned (.tuple #[]) ∧ WX B b cs w0 r' w''
theorem does_of {B b : Nat} {cs : Array Value} {w0 : World} {r : WR} {f : FuncId} {args : Array Value} {r' : WR} (h : ∀ w', WX B b cs w0 r w' → Calls Tryz.prog f args w' (WrP B b r' w')) : Does B b cs w0 r f args r' := by
  intro w' hw
  refine (h w' hw).mono ?_
  rintro e w'' ⟨rfl, h1, k1⟩
  exact ⟨rfl, hw.step k1 h1⟩
theorem does_put {B b : Nat} {cs : Array Value} {w0 : World} {r : WR} (l : List UInt8) (h : roomy r 0) (hl : l.length ≤ 2000) : Does B b cs w0 r 31 #[.pointer (some ⟨b, 0, none⟩), .string (bs l)] (r.put l) :=
  does_of fun w' hw => put_any B b r l w' hw.wr (by unfold roomy at h; omega)
theorem does_name {B b : Nat} {cs : Array Value} {w0 : World} {r : WR} (nm : List UInt8) (hm : nameB nm = true ∨ nm = []) (h : roomy r 0) : Does B b cs w0 r 62 #[.pointer (some ⟨b, 0, none⟩), .string (bs nm)] (r.name nm) :=
  does_of fun w' hw => name_wr B b r nm hm w' hw.wr (by unfold roomy at h; omega)
theorem does_bind {B b : Nat} {cs : Array Value} {w0 : World} {r : WR} (n : Nat) (hn : n ≤ 20) (h : roomy r 0) : Does B b cs w0 r 65 #[.pointer (some ⟨b, 0, none⟩), .int .u64 n] (r.bind n) :=
  does_of fun w' hw => bind_wr B b r n hn w' hw.wr (by unfold roomy at h; omega)

/-- Kids that may be written. -/
structure KW (M B : Nat) (w : World) (a : Option Addr) (m : Nat) (V : Nat → Array Value) (ks : List RT) : Prop where
  hB : B ≤ w.heap.size
  len : ks.length = m
  kids : KidsIn B w a m V
  tree : ∀ i (h : i < ks.length), TreeAt M B w (V i) ks[i]
  el : ∀ x ∈ ks, EncL x
  small : m ≤ 1000000000
theorem KW.keep {M B : Nat} {w w' : World} {a : Option Addr} {m : Nat} {V : Nat → Array Value} {ks : List RT} (h : KW M B w a m V ks) (hs : ∀ k, k < B → w'.heap[k]? = w.heap[k]?) (hB : B ≤ w'.heap.size) : KW M B w' a m V ks :=
  ⟨hB, h.len, h.kids.mono (Nat.le_refl _) hs, fun i hi => (h.tree i hi).mono (Nat.le_refl _) hs, h.el, h.small⟩
theorem KW.tail {M B : Nat} {w : World} {kb off m : Nat} {V : Nat → Array Value} {k : RT} {ks : List RT} (h : KW M B w (some ⟨kb, off, none⟩) m V (k :: ks)) : KW M B w (some ⟨kb, off + 6, none⟩) (m - 1) (fun i => V (i + 1)) ks := by
  have hl := h.len
  have hs := h.small
  simp only [List.length_cons] at hl
  exact ⟨h.hB, by omega, kids_tail h.kids (by omega), trees_tail h.tree, fun x hx => h.el x (List.mem_cons_of_mem _ hx), by omega⟩
theorem KW.init {M B : Nat} {w : World} {a : Option Addr} {m : Nat} {V : Nat → Array Value} {x : RT} {ks : List RT} (h : KW M B w a m V (ks ++ [x])) : KW M B w a (m - 1) V ks := by
  have hl := h.len
  have hs := h.small
  simp only [List.length_append, List.length_cons, List.length_nil] at hl
  exact ⟨h.hB, by omega, kids_init h.kids (by omega), trees_init h.tree, fun y hy => h.el y (List.mem_append_left _ hy), by omega⟩
theorem KW.kid {M B : Nat} {w : World} {a : Option Addr} {m : Nat} {V : Nat → Array Value} {ks : List RT} (h : KW M B w a m V ks) (i : Nat) (hi : i < ks.length) :
    ∃ kb off kd c nm n fl ka km kc, a = some ⟨kb, off, none⟩ ∧ KidW M B ks[i] kb (off + i * 6) kd c nm n fl (.slice ka km kc) w := kid_of h.len h.kids h.tree i hi
theorem WX.hB0 {B b : Nat} {cs : Array Value} {w0 w : World} {r : WR} (h : WX B b cs w0 r w) : B ≤ w.heap.size := h.wr.hB
theorem does_pieces {M B b : Nat} {cs : Array Value} {w0 : World} {r : WR} {a : Option Addr} {m : Nat} (cap : Nat) {V : Nat → Array Value} {ks : List RT} (K : KW M B w0 a m V ks) (hP : ∀ x ∈ ks, PieceW x) (h : roomy r (1200 * sizes ks)) : Does B b cs w0 r 63 #[.pointer (some ⟨b, 0, none⟩), .slice a m cap] (r.trees ks) :=
  does_of fun w' hw => by
    have K' := K.keep (hw.same K.hB) hw.hB0
    exact pieces_wr M B b r w' a m cap V ks K'.len K'.kids K'.tree hP K'.el K'.small hw.wr h
theorem does_kid {M B b : Nat} {cs : Array Value} {w0 : World} {r : WR} {p : RT} {kb o : Nat} {kd : Int} {c : UInt8} {nm : List UInt8} {n : Nat} {fl : Bool} {ks : Value} (K : KidW M B p kb o kd c nm n fl ks w0) (hB : B ≤ w0.heap.size) (hp : PieceW p) (h : roomy r (1200 * size p)) :
    Does B b cs w0 r 23 #[.pointer (some ⟨b, 0, none⟩), .agg (rv kd c nm n fl ks)] (r.tree p) :=
  does_of fun w' hw => K.wcall hB hp w' r hw h

/-- argument, at a tree. -/
def ArgW (t : RT) : Prop := ∀ (M B b : Nat) (r : WR) (w : World) (kd : Int) (c : UInt8) (nm : List UInt8) (n : Nat) (fl : Bool) (kv : Value), TreeAt M B w (rv kd c nm n fl kv) t → Wr B b r w → room r (size t) →
  Calls Tryz.prog 64 #[.pointer (some ⟨b, 0, none⟩), .agg (rv kd c nm n fl kv)] w (WrP B b (r.argu t) w)
theorem does_arg {M B b : Nat} {cs : Array Value} {w0 : World} {r : WR} {p : RT} {kb o : Nat} {kd : Int} {c : UInt8} {nm : List UInt8} {n : Nat} {fl : Bool} {ks : Value} (K : KidW M B p kb o kd c nm n fl ks w0) (hB : B ≤ w0.heap.size) (hp : ArgW p) (h : roomy r (1200 * size p)) :
    Does B b cs w0 r 64 #[.pointer (some ⟨b, 0, none⟩), .agg (rv kd c nm n fl ks)] (r.argu p) :=
  does_of fun w' hw => hp M B b r w' kd c nm n fl ks (K.keep (hw.same hB)).tr hw.wr h
end Go.Proofs.YtdapnoocmpbijaaGreatDoor

/- The writer at arguments. -/
namespace Go.Proofs.YtdapnoocmpbijaaGreatDoor
open Go.RowKit

/-- What a tree in memory is made of. -/
theorem TreeAt.cut {M N : Nat} {w : World} {kd : Int} {c : UInt8} {nm : List UInt8} {n : Nat} {fl : Bool} {kv : Value} {t : RT} (hT : TreeAt M N w (rv kd c nm n fl kv) t) :
    ∃ (a : Option Addr) (m cap : Nat) (V : Nat → Array Value) (ks : List RT), kv = .slice a m cap ∧ t = .mk kd c nm n fl ks ∧ n < 18446744073709551616 ∧ ks.length = m ∧ (m ≤ cap ∧ cap ≤ maxLen) ∧ nm.length ≤ M ∧ m ≤ M ∧ KidsIn N w a m V ∧ ∀ i (h : i < ks.length), TreeAt M N w (V i) ks[i] := by
  generalize hv : rv kd c nm n fl kv = v at hT
  cases hT with
  | mk kd' c' nm' n' fl' a m cap V ks hn hk hc hnm hV hTr =>
    have hv0 := congrArg (fun x => x[0]?) hv
    have hv1 := congrArg (fun x => x[1]?) hv
    have hv2 := congrArg (fun x => x[2]?) hv
    have hv3 := congrArg (fun x => x[3]?) hv
    have hv4 := congrArg (fun x => x[4]?) hv
    have hv5 := congrArg (fun x => x[5]?) hv
    simp at hv0 hv1 hv2 hv3 hv4 hv5
    subst hv0; subst hv4; subst hv5
    obtain rfl : n = n' := by omega
    obtain rfl : c = c' := UInt8.toNat_inj.1 (by omega)
    obtain rfl : nm = nm' := bs_inj hv2
    exact ⟨a, m, cap, V, ks, rfl, rfl, hn, hk, hc, hnm.1, hnm.2, hV, hTr⟩
theorem TreeAt.kd' {M N : Nat} {w : World} {kd : Int} {c : UInt8} {nm : List UInt8} {n : Nat} {fl : Bool} {ks : Value} {t : RT} (h : TreeAt M N w (rv kd c nm n fl ks) t) : t.kd = kd := by
  obtain ⟨_, _, _, _, ks, _, rfl, _⟩ := h.cut
  rfl

/-- piece, at a tree, where there is room for s bytes. -/
def PieceN (t : RT) (s : Nat) : Prop := ∀ (M B b : Nat) (r : WR) (w : World) (kd : Int) (c : UInt8) (nm : List UInt8) (n : Nat) (fl : Bool) (kv : Value), TreeAt M B w (rv kd c nm n fl kv) t → Wr B b r w → roomy r s →
  Calls Tryz.prog 23 #[.pointer (some ⟨b, 0, none⟩), .agg (rv kd c nm n fl kv)] w (WrP B b (r.tree t) w)
theorem PieceN.piece {t : RT} {s : Nat} (h : PieceN t s) (hs : s ≤ 1200 * size t) : PieceW t := fun M B b r w kd c nm n fl kv hT hw hr => h M B b r w kd c nm n fl kv hT hw ((show roomy r _ from hr).le hs)

set_option maxHeartbeats 4000000 in
set_option maxRecDepth 100000 in
theorem arg_piece (t : RT) (hp : PieceW t) (hk : t.kd ≠ 19) (h20 : t.kd ≠ 20) (h21 : t.kd ≠ 21) : ArgW t := by
  intro M B b r w kd c nm n fl kv hT h hr
  obtain rfl := hT.kd'
  have S0 := Lib.hid (WX.start (rv t.kd c nm n fl kv) h)
  have D1 := Lib.hid (does_of (b := b) (cs := rv t.kd c nm n fl kv) fun w' (hw : WX B b (rv t.kd c nm n fl kv) w r w') => hp M B b r w' t.kd c nm n fl kv (hT.mono (Nat.le_refl _) (hw.same h.hB)) hw.wr hr)
  have HE : Hid (r.tree t = r.argu t) := Lib.hid (by
    have : argMark t.kd = [] := by unfold argMark; rw [if_neg (by omega)]
    simp [WR.tree, WR.argu, this])
  have f1 : (t.kd == 19) = false := by rw [beq_eq_false_iff_ne]; exact hk
  have f2 : (t.kd == 20) = false := by rw [beq_eq_false_iff_ne]; exact h20
  have f3 : (t.kd == 21) = false := by rw [beq_eq_false_iff_ne]; exact h21
  clear hp hk h20 h21 h hr hT
  go_enter Tryz.func64, Tryz.ntmps64
  go_wp2_with fail
  refine (D1.out _ S0.out).mono ?_
  rintro e w1 ⟨rfl, h1⟩
  have S1 := Lib.hid h1
  clear h1
  go_wp2
  go_end0
  exact S1.out.post HE.out

set_option maxHeartbeats 4000000 in
set_option maxRecDepth 100000 in
theorem arg_const (t : RT) (hp : PieceN t 1100) (hk : t.kd = 20 ∨ t.kd = 21) : ArgW t := by
  intro M B b r w kd c nm n fl kv hT h hr
  obtain rfl := hT.kd'
  have hs := size_pos t
  have r1 : roomy (r.put [75]) 1100 := roomy.put 100 ((show roomy r _ from hr).le (by omega)) (by simp)
  have S0 := Lib.hid (WX.start (rv t.kd c nm n fl kv) h)
  have D1 := Lib.hid (does_put (B := B) (b := b) (cs := rv t.kd c nm n fl kv) (w0 := w) [75] (r := r) ((show roomy r _ from hr).le (by omega)) (by simp))
  have D2 := Lib.hid (does_of (b := b) (cs := rv t.kd c nm n fl kv) fun w' (hw : WX B b (rv t.kd c nm n fl kv) w (r.put [75]) w') => hp M B b (r.put [75]) w' t.kd c nm n fl kv (hT.mono (Nat.le_refl _) (hw.same h.hB)) hw.wr r1)
  have HE : Hid ((r.put [75]).tree t = r.argu t) := Lib.hid (by
    have : argMark t.kd = [75] := by unfold argMark; rw [if_pos hk]
    rw [WR.put_let r (by unfold letHd; decide)]
    simp [WR.tree, WR.argu, this])
  generalize t.kd = kd at *
  clear hp h hr hT r1
  rcases hk with rfl | rfl
  all_goals
    go_enter Tryz.func64, Tryz.ntmps64
    go_wp2_with fail
    refine (D1.out _ S0.out).mono ?_
    rintro e w1 ⟨rfl, h1⟩
    obtain ⟨b0, b1, b2, b3, b4, b5⟩ := h1.cells
    have S1 := Lib.hid h1
    clear h1
    go_wp2_with fail
    refine (D2.out _ S1.out).mono ?_
    rintro e w2 ⟨rfl, h2⟩
    have S2 := Lib.hid h2
    clear h2
    go_wp2
    go_end0
    exact S2.out.post HE.out

set_option maxHeartbeats 4000000 in
set_option maxRecDepth 100000 in
theorem arg_life (c : UInt8) (nm : List UInt8) (n : Nat) (fl : Bool) (hn : n ≤ 20) : ArgW (.mk 19 c nm n fl []) := by
  intro M B b r w kd c' nm' n' fl' kv hT h hr
  obtain ⟨_, _, _, _, ks, hkv, e, _⟩ := hT.cut
  clear hkv
  simp only [RT.mk.injEq] at e
  obtain ⟨rfl, rfl, rfl, rfl, rfl, _⟩ := e
  have S0 := Lib.hid (WX.start (rv 19 c nm n fl kv) h)
  have HD := Lib.hid (fun w => base62_text n (by omega) w)
  have LD := b62_len n (by omega)
  have hmx : ¬ 9223372036854775807 < (b62 n).length + 1 := by omega
  have eb := bs_cons 76 (b62 n)
  have D1 := Lib.hid (does_put (B := B) (b := b) (cs := (rv 19 c nm n fl kv)) (w0 := w) (76 :: b62 n) ((show roomy r _ from hr).le (by omega)) (by simp; omega))
  have HE : Hid ({ r.put (76 :: b62 n) with cnt := r.cnt + 1 } = r.argu (.mk 19 c nm n fl [])) := Lib.hid (by
    rw [WR.put_let r (by unfold letHd; decide)]
    simp [WR.argu, RT.kd, argMark, enc, emp, bnds, size, sizes, lifeCode])
  clear h hr hT LD hn
  go_enter Tryz.func64, Tryz.ntmps64
  go_wp2_with fail
  refine (HD.out _).mono ?_
  rintro e w1 ⟨rfl, q1, rfl⟩
  have S1 := Lib.hid (S0.out.drewN q1)
  go_wp2_with fail
  refine (D1.out _ S1.out).mono ?_
  rintro e w2 ⟨rfl, h2⟩
  have S2 := Lib.hid h2
  clear h2
  go_wp2
  go_end0
  refine ⟨rfl, (S2.out.wr.mono (n := r.cnt + 1) ?_).cast HE.out, S2.out.kept⟩
  have := (WR.put_bound r (76 :: b62 n)).2.2.2
  omega
end Go.Proofs.YtdapnoocmpbijaaGreatDoor

