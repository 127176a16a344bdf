/- The look at paths: implementations, definitions of traits. -/
import Derived.Test.YtidokamjbglkbaaGreatDoorY05
import Derived.Test.YtidokamjbglkbaaGreatDoorY01
import Derived.Test.YtidokamjbglkbaaGreatDoorY02
namespace Go.Proofs.YtidokamjbglkbaaGreatDoor
open Go.RowKit

set_option maxHeartbeats 4000000 in
set_option maxRecDepth 100000 in
theorem path_impl (M B b deep bound left : Nat) (w : World) (c : UInt8) (nm : List UInt8) (n : Nat) (fl : Bool) (a : Option Addr) (m cap : Nat) (V : Nat → Array Value) (ks : List RT) (hk : ks.length = m) (hcap : m ≤ cap ∧ cap ≤ maxLen) (hn0 : n < 18446744073709551616) (_ : nm.length ≤ 2147483647) (hV : KidsIn B w a m V) (hT : ∀ i (h : i < ks.length), TreeAt M B w (V i) ks[i]) (hP : ∀ x ∈ ks, PieceC x)
    (hM : M ≤ 2147483647) (hm : m ≤ M) (ht : Tabs B w) (hB : B ≤ b) (hw : B ≤ w.heap.size) (hl : Lk b left w) (h1 : left ≤ 300) (h3 : deep ≤ 24) (h4 : bound ≤ 20) :
    Calls Tryz.prog 36 #[.pointer (some ⟨b, 0, none⟩), .agg (rv 2 c nm n fl (.slice a m cap)), .int .i64 deep, .int .i64 bound] w (LkP (Rt bound (.mk 2 c nm n fl ks)) (sizes ks) left B b w) := by
  have S := LkX.start (M := M) (B := B) (b := b) (rv 2 c nm n fl (.slice a m cap)) hl ht hw
  by_cases hN : n < 4611686018427387904
  · have hN' : decide ((4611686018427387904 : Int) ≤ (n : Int)) = false := by simp; omega
    by_cases hm1 : m = 2
    · subst hm1
      match ks, hk with
      | [p0, p1], _ =>
      obtain ⟨kb, off, kd0, c0, nm0, n0, fl0, ka0, km0, kc0, rfl, K0⟩ := kid_of rfl hV hT 0 (by simp)
      change KidW M B p0 _ _ _ _ _ _ _ _ w at K0
      obtain ⟨kb1, off1, kd1, c1, nm1, n1, fl1, ka1, km1, kc1, e1, K1⟩ := kid_of rfl hV hT 1 (by simp)
      change KidW M B p1 _ _ _ _ _ _ _ _ w at K1
      obtain ⟨rfl, rfl⟩ : kb = kb1 ∧ off = off1 := by simpa using e1
      have HC0 := Lib.hid (fun w' (l : Nat) (h : LkX M B b (rv 2 c nm n fl (.slice (some ⟨kb, off, none⟩) 2 cap)) w l w') => K0.call hw (hP p0 (by simp)) hM hB (show 0 ≤ 5 by decide) h3 (show 0 ≤ 20 by omega) w' l h)
      have HK0 := Lib.hid (fun w' (l : Int) (h : LkX M B b (rv 2 c nm n fl (.slice (some ⟨kb, off, none⟩) 2 cap)) w l w') => K0.cells hw h)
      have HC1 := Lib.hid (fun w' (l : Nat) (h : LkX M B b (rv 2 c nm n fl (.slice (some ⟨kb, off, none⟩) 2 cap)) w l w') => K1.call hw (hP p1 (by simp)) hM hB (show 1 ≤ 5 by decide) h3 (show bound ≤ 20 by omega) w' l h)
      have HK1 := Lib.hid (fun w' (l : Int) (h : LkX M B b (rv 2 c nm n fl (.slice (some ⟨kb, off, none⟩) 2 cap)) w l w') => K1.cells hw h)
      obtain ⟨k00, k01, k02, k03, k04, k05⟩ := HK0.out _ _ S
      simp only [Nat.zero_mul, Nat.add_zero] at k00 k01 k02 k03 k04 k05
      have HS := Lib.hid S
      clear S hl hV hT ht hP hm hk K0 K1
      go_enter Tryz.func36, Tryz.ntmps36
      go_wp2_with fail
      refine (HC0.out _ left HS.out (by omega)).mono ?_
      rintro e w1 h
      obtain ⟨bl, l, rfl, hb, hl1, kk⟩ := h
      cases bl with
      | false =>
        clear hb
        have S1 := (HS.out).step kk hl1
        clear kk
        go_wp2
        go_ret
        exact LkP.no' S1
      | true =>
        obtain ⟨hq0, hs0, rfl⟩ := hb rfl
        have S1 := ((HS.out).step kk hl1).cast (show _ = ((left - (size p0) : Nat) : Int) by omega)
        have HQ0 := Lib.hid hq0
        clear kk hl1 hb hq0
        obtain ⟨_, _, _, _, _, b5⟩ := S1.cells
        obtain ⟨k00, k01, k02, k03, k04, k05⟩ := HK1.out _ _ S1
        simp only [Nat.one_mul, Nat.add_assoc, Nat.reduceAdd] at k00 k01 k02 k03 k04 k05
        have HS1 := Lib.hid S1
        clear S1
        go_wp2_with fail
        refine (HC1.out _ (left - (size p0)) HS1.out (by omega)).mono ?_
        rintro e w2 h
        have hf := LkP.fin (Q := Rt bound (.mk 2 c nm n fl [p0, p1])) (n := sizes [p0, p1]) (left := left) h (fun hq => ⟨Rt.impl _ _ _ _ _ _ _ hN HQ0.out.1 (by simpa [fitsK] using HQ0.out.2) hq.1 (by simpa [fitsK] using hq.2), by simp only [sizes]; omega, by omega⟩) (HS1.out).base.kept
        obtain ⟨bl, l, rfl, hb, hl1, kk⟩ := h
        have HF := Lib.hid hf
        clear hf hb kk hl1
        go_wp2
        go_ret
        exact HF.out
    · have hm' : ((m : Int) == 2) = false := by rw [beq_eq_false_iff_ne]; omega
      have HS := Lib.hid S
      clear S hl hV hT ht hP hk
      go_enter Tryz.func36, Tryz.ntmps36
      go_wp2
      go_ret
      exact LkP.no' HS.out
  · have hN' : decide ((4611686018427387904 : Int) ≤ (n : Int)) = true := by simp; omega
    have HS := Lib.hid S
    clear S hl hV hT ht hP hk
    go_enter Tryz.func36, Tryz.ntmps36
    go_wp2
    go_ret
    exact LkP.no' HS.out

set_option maxHeartbeats 4000000 in
set_option maxRecDepth 100000 in
theorem path_timpl (M B b deep bound left : Nat) (w : World) (c : UInt8) (nm : List UInt8) (n : Nat) (fl : Bool) (a : Option Addr) (m cap : Nat) (V : Nat → Array Value) (ks : List RT) (hk : ks.length = m) (hcap : m ≤ cap ∧ cap ≤ maxLen) (hn0 : n < 18446744073709551616) (_ : nm.length ≤ 2147483647) (hV : KidsIn B w a m V) (hT : ∀ i (h : i < ks.length), TreeAt M B w (V i) ks[i]) (hP : ∀ x ∈ ks, PieceC x)
    (hM : M ≤ 2147483647) (hm : m ≤ M) (ht : Tabs B w) (hB : B ≤ b) (hw : B ≤ w.heap.size) (hl : Lk b left w) (h1 : left ≤ 300) (h3 : deep ≤ 24) (h4 : bound ≤ 20) :
    Calls Tryz.prog 36 #[.pointer (some ⟨b, 0, none⟩), .agg (rv 3 c nm n fl (.slice a m cap)), .int .i64 deep, .int .i64 bound] w (LkP (Rt bound (.mk 3 c nm n fl ks)) (sizes ks) left B b w) := by
  have S := LkX.start (M := M) (B := B) (b := b) (rv 3 c nm n fl (.slice a m cap)) hl ht hw
  by_cases hN : n < 4611686018427387904
  · have hN' : decide ((4611686018427387904 : Int) ≤ (n : Int)) = false := by simp; omega
    by_cases hm1 : m = 3
    · subst hm1
      match ks, hk with
      | [p0, p1, p2], _ =>
      obtain ⟨kb, off, kd0, c0, nm0, n0, fl0, ka0, km0, kc0, rfl, K0⟩ := kid_of rfl hV hT 0 (by simp)
      change KidW M B p0 _ _ _ _ _ _ _ _ w at K0
      obtain ⟨kb1, off1, kd1, c1, nm1, n1, fl1, ka1, km1, kc1, e1, K1⟩ := kid_of rfl hV hT 1 (by simp)
      change KidW M B p1 _ _ _ _ _ _ _ _ w at K1
      obtain ⟨rfl, rfl⟩ : kb = kb1 ∧ off = off1 := by simpa using e1
      obtain ⟨kb2, off2, kd2, c2, nm2, n2, fl2, ka2, km2, kc2, e2, K2⟩ := kid_of rfl hV hT 2 (by simp)
      change KidW M B p2 _ _ _ _ _ _ _ _ w at K2
      obtain ⟨rfl, rfl⟩ : kb = kb2 ∧ off = off2 := by simpa using e2
      have HC0 := Lib.hid (fun w' (l : Nat) (h : LkX M B b (rv 3 c nm n fl (.slice (some ⟨kb, off, none⟩) 3 cap)) w l w') => K0.call hw (hP p0 (by simp)) hM hB (show 0 ≤ 5 by decide) h3 (show 0 ≤ 20 by omega) w' l h)
      have HK0 := Lib.hid (fun w' (l : Int) (h : LkX M B b (rv 3 c nm n fl (.slice (some ⟨kb, off, none⟩) 3 cap)) w l w') => K0.cells hw h)
      have HC1 := Lib.hid (fun w' (l : Nat) (h : LkX M B b (rv 3 c nm n fl (.slice (some ⟨kb, off, none⟩) 3 cap)) w l w') => K1.call hw (hP p1 (by simp)) hM hB (show 1 ≤ 5 by decide) h3 (show bound ≤ 20 by omega) w' l h)
      have HK1 := Lib.hid (fun w' (l : Int) (h : LkX M B b (rv 3 c nm n fl (.slice (some ⟨kb, off, none⟩) 3 cap)) w l w') => K1.cells hw h)
      have HC2 := Lib.hid (fun w' (l : Nat) (h : LkX M B b (rv 3 c nm n fl (.slice (some ⟨kb, off, none⟩) 3 cap)) w l w') => K2.call hw (hP p2 (by simp)) hM hB (show 0 ≤ 5 by decide) h3 (show bound ≤ 20 by omega) w' l h)
      have HK2 := Lib.hid (fun w' (l : Int) (h : LkX M B b (rv 3 c nm n fl (.slice (some ⟨kb, off, none⟩) 3 cap)) w l w') => K2.cells hw h)
      obtain ⟨k00, k01, k02, k03, k04, k05⟩ := HK0.out _ _ S
      simp only [Nat.zero_mul, Nat.add_zero] at k00 k01 k02 k03 k04 k05
      have HS := Lib.hid S
      clear S hl hV hT ht hP hm hk K0 K1 K2
      go_enter Tryz.func36, Tryz.ntmps36
      go_wp2_with fail
      refine (HC0.out _ left HS.out (by omega)).mono ?_
      rintro e w1 h
      obtain ⟨bl, l, rfl, hb, hl1, kk⟩ := h
      cases bl with
      | false =>
        clear hb
        have S1 := (HS.out).step kk hl1
        clear kk
        go_wp2
        go_ret
        exact LkP.no' S1
      | true =>
        obtain ⟨hq0, hs0, rfl⟩ := hb rfl
        have S1 := ((HS.out).step kk hl1).cast (show _ = ((left - (size p0) : Nat) : Int) by omega)
        have HQ0 := Lib.hid hq0
        clear kk hl1 hb hq0
        obtain ⟨_, _, _, _, _, b5⟩ := S1.cells
        obtain ⟨k00, k01, k02, k03, k04, k05⟩ := HK1.out _ _ S1
        simp only [Nat.one_mul, Nat.add_assoc, Nat.reduceAdd] at k00 k01 k02 k03 k04 k05
        have HS1 := Lib.hid S1
        clear S1
        go_wp2_with fail
        refine (HC1.out _ (left - (size p0)) HS1.out (by omega)).mono ?_
        rintro e w2 h
        obtain ⟨bl, l, rfl, hb, hl1, kk⟩ := h
        cases bl with
        | false =>
          clear hb
          have S2 := (HS1.out).step kk hl1
          clear kk
          go_wp2
          go_ret
          exact LkP.no' S2
        | true =>
          obtain ⟨hq1, hs1, rfl⟩ := hb rfl
          have S2 := ((HS1.out).step kk hl1).cast (show _ = ((left - (size p0 + size p1) : Nat) : Int) by omega)
          have HQ1 := Lib.hid hq1
          clear kk hl1 hb hq1
          obtain ⟨_, _, _, _, _, b5⟩ := S2.cells
          obtain ⟨k00, k01, k02, k03, k04, k05⟩ := HK2.out _ _ S2
          simp only [Nat.add_assoc, Nat.reduceAdd, Nat.reduceMul] at k00 k01 k02 k03 k04 k05
          have HS2 := Lib.hid S2
          clear S2
          go_wp2_with fail
          refine (HC2.out _ (left - (size p0 + size p1)) HS2.out (by omega)).mono ?_
          rintro e w3 h
          have hf := LkP.fin (Q := Rt bound (.mk 3 c nm n fl [p0, p1, p2])) (n := sizes [p0, p1, p2]) (left := left) h (fun hq => ⟨Rt.timpl _ _ _ _ _ _ _ _ hN HQ0.out.1 (by simpa [fitsK] using HQ0.out.2) HQ1.out.1 (by simpa [fitsK] using HQ1.out.2) hq.1 (by simpa [fitsK] using hq.2), by simp only [sizes]; omega, by omega⟩) (HS2.out).base.kept
          obtain ⟨bl, l, rfl, hb, hl1, kk⟩ := h
          have HF := Lib.hid hf
          clear hf hb kk hl1
          go_wp2
          go_ret
          exact HF.out
    · have hm' : ((m : Int) == 3) = false := by rw [beq_eq_false_iff_ne]; omega
      have HS := Lib.hid S
      clear S hl hV hT ht hP hk
      go_enter Tryz.func36, Tryz.ntmps36
      go_wp2
      go_ret
      exact LkP.no' HS.out
  · have hN' : decide ((4611686018427387904 : Int) ≤ (n : Int)) = true := by simp; omega
    have HS := Lib.hid S
    clear S hl hV hT ht hP hk
    go_enter Tryz.func36, Tryz.ntmps36
    go_wp2
    go_ret
    exact LkP.no' HS.out

set_option maxHeartbeats 4000000 in
set_option maxRecDepth 100000 in
theorem path_tdef (M B b deep bound left : Nat) (w : World) (c : UInt8) (nm : List UInt8) (n : Nat) (fl : Bool) (a : Option Addr) (m cap : Nat) (V : Nat → Array Value) (ks : List RT) (hk : ks.length = m) (hcap : m ≤ cap ∧ cap ≤ maxLen) (hn0 : n < 18446744073709551616) (_ : nm.length ≤ 2147483647) (hV : KidsIn B w a m V) (hT : ∀ i (h : i < ks.length), TreeAt M B w (V i) ks[i]) (hP : ∀ x ∈ ks, PieceC x)
    (hM : M ≤ 2147483647) (hm : m ≤ M) (ht : Tabs B w) (hB : B ≤ b) (hw : B ≤ w.heap.size) (hl : Lk b left w) (h1 : left ≤ 300) (h3 : deep ≤ 24) (h4 : bound ≤ 20) :
    Calls Tryz.prog 36 #[.pointer (some ⟨b, 0, none⟩), .agg (rv 4 c nm n fl (.slice a m cap)), .int .i64 deep, .int .i64 bound] w (LkP (Rt bound (.mk 4 c nm n fl ks)) (sizes ks) left B b w) := by
  have S := LkX.start (M := M) (B := B) (b := b) (rv 4 c nm n fl (.slice a m cap)) hl ht hw
  by_cases hN : n < 4611686018427387904
  · have hN' : decide ((4611686018427387904 : Int) ≤ (n : Int)) = false := by simp; omega
    by_cases hm1 : m = 2
    · subst hm1
      match ks, hk with
      | [p0, p1], _ =>
      obtain ⟨kb, off, kd0, c0, nm0, n0, fl0, ka0, km0, kc0, rfl, K0⟩ := kid_of rfl hV hT 0 (by simp)
      change KidW M B p0 _ _ _ _ _ _ _ _ w at K0
      obtain ⟨kb1, off1, kd1, c1, nm1, n1, fl1, ka1, km1, kc1, e1, K1⟩ := kid_of rfl hV hT 1 (by simp)
      change KidW M B p1 _ _ _ _ _ _ _ _ w at K1
      obtain ⟨rfl, rfl⟩ : kb = kb1 ∧ off = off1 := by simpa using e1
      have HC0 := Lib.hid (fun w' (l : Nat) (h : LkX M B b (rv 4 c nm n fl (.slice (some ⟨kb, off, none⟩) 2 cap)) w l w') => K0.call hw (hP p0 (by simp)) hM hB (show 1 ≤ 5 by decide) h3 (show bound ≤ 20 by omega) w' l h)
      have HK0 := Lib.hid (fun w' (l : Int) (h : LkX M B b (rv 4 c nm n fl (.slice (some ⟨kb, off, none⟩) 2 cap)) w l w') => K0.cells hw h)
      have HC1 := Lib.hid (fun w' (l : Nat) (h : LkX M B b (rv 4 c nm n fl (.slice (some ⟨kb, off, none⟩) 2 cap)) w l w') => K1.call hw (hP p1 (by simp)) hM hB (show 0 ≤ 5 by decide) h3 (show bound ≤ 20 by omega) w' l h)
      have HK1 := Lib.hid (fun w' (l : Int) (h : LkX M B b (rv 4 c nm n fl (.slice (some ⟨kb, off, none⟩) 2 cap)) w l w') => K1.cells hw h)
      obtain ⟨k00, k01, k02, k03, k04, k05⟩ := HK0.out _ _ S
      simp only [Nat.zero_mul, Nat.add_zero] at k00 k01 k02 k03 k04 k05
      have HS := Lib.hid S
      clear S hl hV hT ht hP hm hk K0 K1
      go_enter Tryz.func36, Tryz.ntmps36
      go_wp2_with fail
      refine (HC0.out _ left HS.out (by omega)).mono ?_
      rintro e w1 h
      obtain ⟨bl, l, rfl, hb, hl1, kk⟩ := h
      cases bl with
      | false =>
        clear hb
        have S1 := (HS.out).step kk hl1
        clear kk
        go_wp2
        go_ret
        exact LkP.no' S1
      | true =>
        obtain ⟨hq0, hs0, rfl⟩ := hb rfl
        have S1 := ((HS.out).step kk hl1).cast (show _ = ((left - (size p0) : Nat) : Int) by omega)
        have HQ0 := Lib.hid hq0
        clear kk hl1 hb hq0
        obtain ⟨_, _, _, _, _, b5⟩ := S1.cells
        obtain ⟨k00, k01, k02, k03, k04, k05⟩ := HK1.out _ _ S1
        simp only [Nat.one_mul, Nat.add_assoc, Nat.reduceAdd] at k00 k01 k02 k03 k04 k05
        have HS1 := Lib.hid S1
        clear S1
        go_wp2_with fail
        refine (HC1.out _ (left - (size p0)) HS1.out (by omega)).mono ?_
        rintro e w2 h
        have hf := LkP.fin (Q := Rt bound (.mk 4 c nm n fl [p0, p1])) (n := sizes [p0, p1]) (left := left) h (fun hq => ⟨Rt.tdef _ _ _ _ _ _ _ hN HQ0.out.1 (by simpa [fitsK] using HQ0.out.2) hq.1 (by simpa [fitsK] using hq.2), by simp only [sizes]; omega, by omega⟩) (HS1.out).base.kept
        obtain ⟨bl, l, rfl, hb, hl1, kk⟩ := h
        have HF := Lib.hid hf
        clear hf hb kk hl1
        go_wp2
        go_ret
        exact HF.out
    · have hm' : ((m : Int) == 2) = false := by rw [beq_eq_false_iff_ne]; omega
      have HS := Lib.hid S
      clear S hl hV hT ht hP hk
      go_enter Tryz.func36, Tryz.ntmps36
      go_wp2
      go_ret
      exact LkP.no' HS.out
  · have hN' : decide ((4611686018427387904 : Int) ≤ (n : Int)) = true := by simp; omega
    have HS := Lib.hid S
    clear S hl hV hT ht hP hk
    go_enter Tryz.func36, Tryz.ntmps36
    go_wp2
    go_ret
    exact LkP.no' HS.out

end Go.Proofs.YtidokamjbglkbaaGreatDoor

/- The look at plain types. -/
namespace Go.Proofs.YtidokamjbglkbaaGreatDoor
open Go.RowKit

set_option maxHeartbeats 4000000 in
set_option maxRecDepth 100000 in
theorem plain_arr (M B b deep bound left : Nat) (w : World) (c : UInt8) (nm : List UInt8) (n : Nat) (fl : Bool) (a : Option Addr) (m cap : Nat) (V : Nat → Array Value) (ks : List RT) (hk : ks.length = m) (hcap : m ≤ cap ∧ cap ≤ maxLen) (_ : n < 18446744073709551616) (_ : nm.length ≤ 2147483647) (hV : KidsIn B w a m V) (hT : ∀ i (h : i < ks.length), TreeAt M B w (V i) ks[i]) (hP : ∀ x ∈ ks, PieceC x)
    (hM : M ≤ 2147483647) (hm : m ≤ M) (ht : Tabs B w) (hB : B ≤ b) (hw : B ≤ w.heap.size) (hl : Lk b left w) (h1 : left ≤ 300) (h3 : deep ≤ 24) (h4 : bound ≤ 20) :
    Calls Tryz.prog 37 #[.pointer (some ⟨b, 0, none⟩), .agg (rv 8 c nm n fl (.slice a m cap)), .int .i64 deep, .int .i64 bound] w (LkP (Rt bound (.mk 8 c nm n fl ks)) (sizes ks) left B b w) := by
  have S := LkX.start (M := M) (B := B) (b := b) (rv 8 c nm n fl (.slice a m cap)) hl ht hw
  by_cases hm1 : m = 2
  · subst hm1
    match ks, hk with
    | [p0, p1], _ =>
    obtain ⟨kb, off, kd0, c0, nm0, n0, fl0, ka0, km0, kc0, rfl, K0⟩ := kid_of rfl hV hT 0 (by simp)
    change KidW M B p0 _ _ _ _ _ _ _ _ w at K0
    obtain ⟨kb1, off1, kd1, c1, nm1, n1, fl1, ka1, km1, kc1, e1, K1⟩ := kid_of rfl hV hT 1 (by simp)
    change KidW M B p1 _ _ _ _ _ _ _ _ w at K1
    obtain ⟨rfl, rfl⟩ : kb = kb1 ∧ off = off1 := by simpa using e1
    have HC0 := Lib.hid (fun w' (l : Nat) (h : LkX M B b (rv 8 c nm n fl (.slice (some ⟨kb, off, none⟩) 2 cap)) w l w') => K0.call hw (hP p0 (by simp)) hM hB (show 1 ≤ 5 by decide) h3 (show bound ≤ 20 by omega) w' l h)
    have HK0 := Lib.hid (fun w' (l : Int) (h : LkX M B b (rv 8 c nm n fl (.slice (some ⟨kb, off, none⟩) 2 cap)) w l w') => K0.cells hw h)
    have HC1 := Lib.hid (fun w' (l : Nat) (h : LkX M B b (rv 8 c nm n fl (.slice (some ⟨kb, off, none⟩) 2 cap)) w l w') => K1.call hw (hP p1 (by simp)) hM hB (show 3 ≤ 5 by decide) h3 (show bound ≤ 20 by omega) w' l h)
    have HK1 := Lib.hid (fun w' (l : Int) (h : LkX M B b (rv 8 c nm n fl (.slice (some ⟨kb, off, none⟩) 2 cap)) w l w') => K1.cells hw h)
    obtain ⟨k00, k01, k02, k03, k04, k05⟩ := HK0.out _ _ S
    simp only [Nat.zero_mul, Nat.add_zero] at k00 k01 k02 k03 k04 k05
    have HS := Lib.hid S
    clear S hl hV hT ht hP hm hk K0 K1
    go_enter Tryz.func37, Tryz.ntmps37
    go_wp2_with fail
    refine (HC0.out _ left HS.out (by omega)).mono ?_
    rintro e w1 h
    obtain ⟨bl, l, rfl, hb, hl1, kk⟩ := h
    cases bl with
    | false =>
      clear hb
      have S1 := (HS.out).step kk hl1
      clear kk
      go_wp2
      go_ret
      exact LkP.no' S1
    | true =>
      obtain ⟨hq0, hs0, rfl⟩ := hb rfl
      have S1 := ((HS.out).step kk hl1).cast (show _ = ((left - (size p0) : Nat) : Int) by omega)
      have HQ0 := Lib.hid hq0
      clear kk hl1 hb hq0
      obtain ⟨_, _, _, _, _, b5⟩ := S1.cells
      obtain ⟨k00, k01, k02, k03, k04, k05⟩ := HK1.out _ _ S1
      simp only [Nat.one_mul, Nat.add_assoc, Nat.reduceAdd] at k00 k01 k02 k03 k04 k05
      have HS1 := Lib.hid S1
      clear S1
      go_wp2_with fail
      refine (HC1.out _ (left - (size p0)) HS1.out (by omega)).mono ?_
      rintro e w2 h
      have hf := LkP.fin (Q := Rt bound (.mk 8 c nm n fl [p0, p1])) (n := sizes [p0, p1]) (left := left) h (fun hq => ⟨Rt.arr _ _ _ _ _ _ _ HQ0.out.1 (by simpa [fitsK] using HQ0.out.2) hq.1 (by simpa [fitsK] using hq.2), by simp only [sizes]; omega, by omega⟩) (HS1.out).base.kept
      obtain ⟨bl, l, rfl, hb, hl1, kk⟩ := h
      have HF := Lib.hid hf
      clear hf hb kk hl1
      go_wp2
      go_ret
      exact HF.out
  · have hm' : ((m : Int) == 2) = false := by rw [beq_eq_false_iff_ne]; omega
    have HS := Lib.hid S
    clear S hl hV hT ht hP hk
    go_enter Tryz.func37, Tryz.ntmps37
    go_wp2
    go_ret
    exact LkP.no' HS.out

set_option maxHeartbeats 4000000 in
set_option maxRecDepth 100000 in
theorem plain_slice (M B b deep bound left : Nat) (w : World) (c : UInt8) (nm : List UInt8) (n : Nat) (fl : Bool) (a : Option Addr) (m cap : Nat) (V : Nat → Array Value) (ks : List RT) (hk : ks.length = m) (hcap : m ≤ cap ∧ cap ≤ maxLen) (_ : n < 18446744073709551616) (_ : nm.length ≤ 2147483647) (hV : KidsIn B w a m V) (hT : ∀ i (h : i < ks.length), TreeAt M B w (V i) ks[i]) (hP : ∀ x ∈ ks, PieceC x)
    (hM : M ≤ 2147483647) (hm : m ≤ M) (ht : Tabs B w) (hB : B ≤ b) (hw : B ≤ w.heap.size) (hl : Lk b left w) (h1 : left ≤ 300) (h3 : deep ≤ 24) (h4 : bound ≤ 20) :
    Calls Tryz.prog 37 #[.pointer (some ⟨b, 0, none⟩), .agg (rv 9 c nm n fl (.slice a m cap)), .int .i64 deep, .int .i64 bound] w (LkP (Rt bound (.mk 9 c nm n fl ks)) (sizes ks) left B b w) := by
  have S := LkX.start (M := M) (B := B) (b := b) (rv 9 c nm n fl (.slice a m cap)) hl ht hw
  by_cases hm1 : m = 1
  · subst hm1
    match ks, hk with
    | [p0], _ =>
    obtain ⟨kb, off, kd0, c0, nm0, n0, fl0, ka0, km0, kc0, rfl, K0⟩ := kid_of rfl hV hT 0 (by simp)
    change KidW M B p0 _ _ _ _ _ _ _ _ w at K0
    have HC0 := Lib.hid (fun w' (l : Nat) (h : LkX M B b (rv 9 c nm n fl (.slice (some ⟨kb, off, none⟩) 1 cap)) w l w') => K0.call hw (hP p0 (by simp)) hM hB (show 1 ≤ 5 by decide) h3 (show bound ≤ 20 by omega) w' l h)
    have HK0 := Lib.hid (fun w' (l : Int) (h : LkX M B b (rv 9 c nm n fl (.slice (some ⟨kb, off, none⟩) 1 cap)) w l w') => K0.cells hw h)
    obtain ⟨k00, k01, k02, k03, k04, k05⟩ := HK0.out _ _ S
    simp only [Nat.zero_mul, Nat.add_zero] at k00 k01 k02 k03 k04 k05
    have HS := Lib.hid S
    clear S hl hV hT ht hP hm hk K0
    go_enter Tryz.func37, Tryz.ntmps37
    go_wp2_with fail
    refine (HC0.out _ left HS.out (by omega)).mono ?_
    rintro e w1 h
    have hf := LkP.fin (Q := Rt bound (.mk 9 c nm n fl [p0])) (n := sizes [p0]) (left := left) h (fun hq => ⟨Rt.slice _ _ _ _ _ _ hq.1 (by simpa [fitsK] using hq.2), by simp only [sizes]; omega, by omega⟩) (HS.out).base.kept
    obtain ⟨bl, l, rfl, hb, hl1, kk⟩ := h
    have HF := Lib.hid hf
    clear hf hb kk hl1
    go_wp2
    go_ret
    exact HF.out
  · have hm' : ((m : Int) == 1) = false := by rw [beq_eq_false_iff_ne]; omega
    have HS := Lib.hid S
    clear S hl hV hT ht hP hk
    go_enter Tryz.func37, Tryz.ntmps37
    go_wp2
    go_ret
    exact LkP.no' HS.out

set_option maxHeartbeats 4000000 in
set_option maxRecDepth 100000 in
theorem plain_cptr (M B b deep bound left : Nat) (w : World) (c : UInt8) (nm : List UInt8) (n : Nat) (fl : Bool) (a : Option Addr) (m cap : Nat) (V : Nat → Array Value) (ks : List RT) (hk : ks.length = m) (hcap : m ≤ cap ∧ cap ≤ maxLen) (_ : n < 18446744073709551616) (_ : nm.length ≤ 2147483647) (hV : KidsIn B w a m V) (hT : ∀ i (h : i < ks.length), TreeAt M B w (V i) ks[i]) (hP : ∀ x ∈ ks, PieceC x)
    (hM : M ≤ 2147483647) (hm : m ≤ M) (ht : Tabs B w) (hB : B ≤ b) (hw : B ≤ w.heap.size) (hl : Lk b left w) (h1 : left ≤ 300) (h3 : deep ≤ 24) (h4 : bound ≤ 20) :
    Calls Tryz.prog 37 #[.pointer (some ⟨b, 0, none⟩), .agg (rv 13 c nm n fl (.slice a m cap)), .int .i64 deep, .int .i64 bound] w (LkP (Rt bound (.mk 13 c nm n fl ks)) (sizes ks) left B b w) := by
  have S := LkX.start (M := M) (B := B) (b := b) (rv 13 c nm n fl (.slice a m cap)) hl ht hw
  by_cases hm1 : m = 1
  · subst hm1
    match ks, hk with
    | [p0], _ =>
    obtain ⟨kb, off, kd0, c0, nm0, n0, fl0, ka0, km0, kc0, rfl, K0⟩ := kid_of rfl hV hT 0 (by simp)
    change KidW M B p0 _ _ _ _ _ _ _ _ w at K0
    have HC0 := Lib.hid (fun w' (l : Nat) (h : LkX M B b (rv 13 c nm n fl (.slice (some ⟨kb, off, none⟩) 1 cap)) w l w') => K0.call hw (hP p0 (by simp)) hM hB (show 1 ≤ 5 by decide) h3 (show bound ≤ 20 by omega) w' l h)
    have HK0 := Lib.hid (fun w' (l : Int) (h : LkX M B b (rv 13 c nm n fl (.slice (some ⟨kb, off, none⟩) 1 cap)) w l w') => K0.cells hw h)
    obtain ⟨k00, k01, k02, k03, k04, k05⟩ := HK0.out _ _ S
    simp only [Nat.zero_mul, Nat.add_zero] at k00 k01 k02 k03 k04 k05
    have HS := Lib.hid S
    clear S hl hV hT ht hP hm hk K0
    go_enter Tryz.func37, Tryz.ntmps37
    go_wp2_with fail
    refine (HC0.out _ left HS.out (by omega)).mono ?_
    rintro e w1 h
    have hf := LkP.fin (Q := Rt bound (.mk 13 c nm n fl [p0])) (n := sizes [p0]) (left := left) h (fun hq => ⟨Rt.cptr _ _ _ _ _ _ hq.1 (by simpa [fitsK] using hq.2), by simp only [sizes]; omega, by omega⟩) (HS.out).base.kept
    obtain ⟨bl, l, rfl, hb, hl1, kk⟩ := h
    have HF := Lib.hid hf
    clear hf hb kk hl1
    go_wp2
    go_ret
    exact HF.out
  · have hm' : ((m : Int) == 1) = false := by rw [beq_eq_false_iff_ne]; omega
    have HS := Lib.hid S
    clear S hl hV hT ht hP hk
    go_enter Tryz.func37, Tryz.ntmps37
    go_wp2
    go_ret
    exact LkP.no' HS.out

set_option maxHeartbeats 4000000 in
set_option maxRecDepth 100000 in
theorem plain_mptr (M B b deep bound left : Nat) (w : World) (c : UInt8) (nm : List UInt8) (n : Nat) (fl : Bool) (a : Option Addr) (m cap : Nat) (V : Nat → Array Value) (ks : List RT) (hk : ks.length = m) (hcap : m ≤ cap ∧ cap ≤ maxLen) (_ : n < 18446744073709551616) (_ : nm.length ≤ 2147483647) (hV : KidsIn B w a m V) (hT : ∀ i (h : i < ks.length), TreeAt M B w (V i) ks[i]) (hP : ∀ x ∈ ks, PieceC x)
    (hM : M ≤ 2147483647) (hm : m ≤ M) (ht : Tabs B w) (hB : B ≤ b) (hw : B ≤ w.heap.size) (hl : Lk b left w) (h1 : left ≤ 300) (h3 : deep ≤ 24) (h4 : bound ≤ 20) :
    Calls Tryz.prog 37 #[.pointer (some ⟨b, 0, none⟩), .agg (rv 14 c nm n fl (.slice a m cap)), .int .i64 deep, .int .i64 bound] w (LkP (Rt bound (.mk 14 c nm n fl ks)) (sizes ks) left B b w) := by
  have S := LkX.start (M := M) (B := B) (b := b) (rv 14 c nm n fl (.slice a m cap)) hl ht hw
  by_cases hm1 : m = 1
  · subst hm1
    match ks, hk with
    | [p0], _ =>
    obtain ⟨kb, off, kd0, c0, nm0, n0, fl0, ka0, km0, kc0, rfl, K0⟩ := kid_of rfl hV hT 0 (by simp)
    change KidW M B p0 _ _ _ _ _ _ _ _ w at K0
    have HC0 := Lib.hid (fun w' (l : Nat) (h : LkX M B b (rv 14 c nm n fl (.slice (some ⟨kb, off, none⟩) 1 cap)) w l w') => K0.call hw (hP p0 (by simp)) hM hB (show 1 ≤ 5 by decide) h3 (show bound ≤ 20 by omega) w' l h)
    have HK0 := Lib.hid (fun w' (l : Int) (h : LkX M B b (rv 14 c nm n fl (.slice (some ⟨kb, off, none⟩) 1 cap)) w l w') => K0.cells hw h)
    obtain ⟨k00, k01, k02, k03, k04, k05⟩ := HK0.out _ _ S
    simp only [Nat.zero_mul, Nat.add_zero] at k00 k01 k02 k03 k04 k05
    have HS := Lib.hid S
    clear S hl hV hT ht hP hm hk K0
    go_enter Tryz.func37, Tryz.ntmps37
    go_wp2_with fail
    refine (HC0.out _ left HS.out (by omega)).mono ?_
    rintro e w1 h
    have hf := LkP.fin (Q := Rt bound (.mk 14 c nm n fl [p0])) (n := sizes [p0]) (left := left) h (fun hq => ⟨Rt.mptr _ _ _ _ _ _ hq.1 (by simpa [fitsK] using hq.2), by simp only [sizes]; omega, by omega⟩) (HS.out).base.kept
    obtain ⟨bl, l, rfl, hb, hl1, kk⟩ := h
    have HF := Lib.hid hf
    clear hf hb kk hl1
    go_wp2
    go_ret
    exact HF.out
  · have hm' : ((m : Int) == 1) = false := by rw [beq_eq_false_iff_ne]; omega
    have HS := Lib.hid S
    clear S hl hV hT ht hP hk
    go_enter Tryz.func37, Tryz.ntmps37
    go_wp2
    go_ret
    exact LkP.no' HS.out

set_option maxHeartbeats 4000000 in
set_option maxRecDepth 100000 in
theorem plain_ref (M B b deep bound left : Nat) (w : World) (c : UInt8) (nm : List UInt8) (n : Nat) (fl : Bool) (a : Option Addr) (m cap : Nat) (V : Nat → Array Value) (ks : List RT) (hk : ks.length = m) (hcap : m ≤ cap ∧ cap ≤ maxLen) (_ : n < 18446744073709551616) (_ : nm.length ≤ 2147483647) (hV : KidsIn B w a m V) (hT : ∀ i (h : i < ks.length), TreeAt M B w (V i) ks[i]) (hP : ∀ x ∈ ks, PieceC x)
    (hM : M ≤ 2147483647) (hm : m ≤ M) (ht : Tabs B w) (hB : B ≤ b) (hw : B ≤ w.heap.size) (hl : Lk b left w) (h1 : left ≤ 300) (h3 : deep ≤ 24) (h4 : bound ≤ 20) :
    Calls Tryz.prog 37 #[.pointer (some ⟨b, 0, none⟩), .agg (rv 11 c nm n fl (.slice a m cap)), .int .i64 deep, .int .i64 bound] w (LkP (Rt bound (.mk 11 c nm n fl ks)) (sizes ks) left B b w) := by
  have S := LkX.start (M := M) (B := B) (b := b) (rv 11 c nm n fl (.slice a m cap)) hl ht hw
  by_cases hN : n ≤ bound
  · have hN' : decide ((bound : Int) < (n : Int)) = false := by simp; omega
    by_cases hm1 : m = 1
    · subst hm1
      match ks, hk with
      | [p0], _ =>
      obtain ⟨kb, off, kd0, c0, nm0, n0, fl0, ka0, km0, kc0, rfl, K0⟩ := kid_of rfl hV hT 0 (by simp)
      change KidW M B p0 _ _ _ _ _ _ _ _ w at K0
      have HC0 := Lib.hid (fun w' (l : Nat) (h : LkX M B b (rv 11 c nm n fl (.slice (some ⟨kb, off, none⟩) 1 cap)) w l w') => K0.call hw (hP p0 (by simp)) hM hB (show 1 ≤ 5 by decide) h3 (show bound ≤ 20 by omega) w' l h)
      have HK0 := Lib.hid (fun w' (l : Int) (h : LkX M B b (rv 11 c nm n fl (.slice (some ⟨kb, off, none⟩) 1 cap)) w l w') => K0.cells hw h)
      obtain ⟨k00, k01, k02, k03, k04, k05⟩ := HK0.out _ _ S
      simp only [Nat.zero_mul, Nat.add_zero] at k00 k01 k02 k03 k04 k05
      have HS := Lib.hid S
      clear S hl hV hT ht hP hm hk K0
      go_enter Tryz.func37, Tryz.ntmps37
      go_wp2_with fail
      refine (HC0.out _ left HS.out (by omega)).mono ?_
      rintro e w1 h
      have hf := LkP.fin (Q := Rt bound (.mk 11 c nm n fl [p0])) (n := sizes [p0]) (left := left) h (fun hq => ⟨Rt.ref _ _ _ _ _ _ hN hq.1 (by simpa [fitsK] using hq.2), by simp only [sizes]; omega, by omega⟩) (HS.out).base.kept
      obtain ⟨bl, l, rfl, hb, hl1, kk⟩ := h
      have HF := Lib.hid hf
      clear hf hb kk hl1
      go_wp2
      go_ret
      exact HF.out
    · have hm' : ((m : Int) == 1) = false := by rw [beq_eq_false_iff_ne]; omega
      have HS := Lib.hid S
      clear S hl hV hT ht hP hk
      go_enter Tryz.func37, Tryz.ntmps37
      go_wp2
      go_ret
      exact LkP.no' HS.out
  · have hN' : decide ((bound : Int) < (n : Int)) = true := by simp; omega
    have HS := Lib.hid S
    clear S hl hV hT ht hP hk
    go_enter Tryz.func37, Tryz.ntmps37
    go_wp2
    go_ret
    exact LkP.no' HS.out

set_option maxHeartbeats 4000000 in
set_option maxRecDepth 100000 in
theorem plain_mut (M B b deep bound left : Nat) (w : World) (c : UInt8) (nm : List UInt8) (n : Nat) (fl : Bool) (a : Option Addr) (m cap : Nat) (V : Nat → Array Value) (ks : List RT) (hk : ks.length = m) (hcap : m ≤ cap ∧ cap ≤ maxLen) (_ : n < 18446744073709551616) (_ : nm.length ≤ 2147483647) (hV : KidsIn B w a m V) (hT : ∀ i (h : i < ks.length), TreeAt M B w (V i) ks[i]) (hP : ∀ x ∈ ks, PieceC x)
    (hM : M ≤ 2147483647) (hm : m ≤ M) (ht : Tabs B w) (hB : B ≤ b) (hw : B ≤ w.heap.size) (hl : Lk b left w) (h1 : left ≤ 300) (h3 : deep ≤ 24) (h4 : bound ≤ 20) :
    Calls Tryz.prog 37 #[.pointer (some ⟨b, 0, none⟩), .agg (rv 12 c nm n fl (.slice a m cap)), .int .i64 deep, .int .i64 bound] w (LkP (Rt bound (.mk 12 c nm n fl ks)) (sizes ks) left B b w) := by
  have S := LkX.start (M := M) (B := B) (b := b) (rv 12 c nm n fl (.slice a m cap)) hl ht hw
  by_cases hN : n ≤ bound
  · have hN' : decide ((bound : Int) < (n : Int)) = false := by simp; omega
    by_cases hm1 : m = 1
    · subst hm1
      match ks, hk with
      | [p0], _ =>
      obtain ⟨kb, off, kd0, c0, nm0, n0, fl0, ka0, km0, kc0, rfl, K0⟩ := kid_of rfl hV hT 0 (by simp)
      change KidW M B p0 _ _ _ _ _ _ _ _ w at K0
      have HC0 := Lib.hid (fun w' (l : Nat) (h : LkX M B b (rv 12 c nm n fl (.slice (some ⟨kb, off, none⟩) 1 cap)) w l w') => K0.call hw (hP p0 (by simp)) hM hB (show 1 ≤ 5 by decide) h3 (show bound ≤ 20 by omega) w' l h)
      have HK0 := Lib.hid (fun w' (l : Int) (h : LkX M B b (rv 12 c nm n fl (.slice (some ⟨kb, off, none⟩) 1 cap)) w l w') => K0.cells hw h)
      obtain ⟨k00, k01, k02, k03, k04, k05⟩ := HK0.out _ _ S
      simp only [Nat.zero_mul, Nat.add_zero] at k00 k01 k02 k03 k04 k05
      have HS := Lib.hid S
      clear S hl hV hT ht hP hm hk K0
      go_enter Tryz.func37, Tryz.ntmps37
      go_wp2_with fail
      refine (HC0.out _ left HS.out (by omega)).mono ?_
      rintro e w1 h
      have hf := LkP.fin (Q := Rt bound (.mk 12 c nm n fl [p0])) (n := sizes [p0]) (left := left) h (fun hq => ⟨Rt.mut _ _ _ _ _ _ hN hq.1 (by simpa [fitsK] using hq.2), by simp only [sizes]; omega, by omega⟩) (HS.out).base.kept
      obtain ⟨bl, l, rfl, hb, hl1, kk⟩ := h
      have HF := Lib.hid hf
      clear hf hb kk hl1
      go_wp2
      go_ret
      exact HF.out
    · have hm' : ((m : Int) == 1) = false := by rw [beq_eq_false_iff_ne]; omega
      have HS := Lib.hid S
      clear S hl hV hT ht hP hk
      go_enter Tryz.func37, Tryz.ntmps37
      go_wp2
      go_ret
      exact LkP.no' HS.out
  · have hN' : decide ((bound : Int) < (n : Int)) = true := by simp; omega
    have HS := Lib.hid S
    clear S hl hV hT ht hP hk
    go_enter Tryz.func37, Tryz.ntmps37
    go_wp2
    go_ret
    exact LkP.no' HS.out

end Go.Proofs.YtidokamjbglkbaaGreatDoor

/- RustBasicText. -/
namespace Go.Proofs.YtidokamjbglkbaaGreatDoor
open Go.RowKit

set_option maxHeartbeats 8000000 in
set_option maxRecDepth 100000 in
theorem basicText_any (c : Nat) (w : World) : Calls Tryz.prog 47 #[.int .u8 c] w fun e w' => e = .returned (.string (bs (basicText c))) ∧ w = w' := by
  by_cases h97 : c = 97
  · subst h97
    go_enter Tryz.func47, Tryz.ntmps47
    go_wp2
    go_ret
    exact ⟨rfl, rfl⟩
  by_cases h98 : c = 98
  · subst h98
    go_enter Tryz.func47, Tryz.ntmps47
    go_wp2
    go_ret
    exact ⟨rfl, rfl⟩
  by_cases h99 : c = 99
  · subst h99
    go_enter Tryz.func47, Tryz.ntmps47
    go_wp2
    go_ret
    exact ⟨rfl, rfl⟩
  by_cases h100 : c = 100
  · subst h100
    go_enter Tryz.func47, Tryz.ntmps47
    go_wp2
    go_ret
    exact ⟨rfl, rfl⟩
  by_cases h101 : c = 101
  · subst h101
    go_enter Tryz.func47, Tryz.ntmps47
    go_wp2
    go_ret
    exact ⟨rfl, rfl⟩
  by_cases h102 : c = 102
  · subst h102
    go_enter Tryz.func47, Tryz.ntmps47
    go_wp2
    go_ret
    exact ⟨rfl, rfl⟩
  by_cases h104 : c = 104
  · subst h104
    go_enter Tryz.func47, Tryz.ntmps47
    go_wp2
    go_ret
    exact ⟨rfl, rfl⟩
  by_cases h105 : c = 105
  · subst h105
    go_enter Tryz.func47, Tryz.ntmps47
    go_wp2
    go_ret
    exact ⟨rfl, rfl⟩
  by_cases h106 : c = 106
  · subst h106
    go_enter Tryz.func47, Tryz.ntmps47
    go_wp2
    go_ret
    exact ⟨rfl, rfl⟩
  by_cases h108 : c = 108
  · subst h108
    go_enter Tryz.func47, Tryz.ntmps47
    go_wp2
    go_ret
    exact ⟨rfl, rfl⟩
  by_cases h109 : c = 109
  · subst h109
    go_enter Tryz.func47, Tryz.ntmps47
    go_wp2
    go_ret
    exact ⟨rfl, rfl⟩
  by_cases h110 : c = 110
  · subst h110
    go_enter Tryz.func47, Tryz.ntmps47
    go_wp2
    go_ret
    exact ⟨rfl, rfl⟩
  by_cases h111 : c = 111
  · subst h111
    go_enter Tryz.func47, Tryz.ntmps47
    go_wp2
    go_ret
    exact ⟨rfl, rfl⟩
  by_cases h115 : c = 115
  · subst h115
    go_enter Tryz.func47, Tryz.ntmps47
    go_wp2
    go_ret
    exact ⟨rfl, rfl⟩
  by_cases h116 : c = 116
  · subst h116
    go_enter Tryz.func47, Tryz.ntmps47
    go_wp2
    go_ret
    exact ⟨rfl, rfl⟩
  by_cases h117 : c = 117
  · subst h117
    go_enter Tryz.func47, Tryz.ntmps47
    go_wp2
    go_ret
    exact ⟨rfl, rfl⟩
  by_cases h118 : c = 118
  · subst h118
    go_enter Tryz.func47, Tryz.ntmps47
    go_wp2
    go_ret
    exact ⟨rfl, rfl⟩
  by_cases h120 : c = 120
  · subst h120
    go_enter Tryz.func47, Tryz.ntmps47
    go_wp2
    go_ret
    exact ⟨rfl, rfl⟩
  by_cases h121 : c = 121
  · subst h121
    go_enter Tryz.func47, Tryz.ntmps47
    go_wp2
    go_ret
    exact ⟨rfl, rfl⟩
  by_cases h122 : c = 122
  · subst h122
    go_enter Tryz.func47, Tryz.ntmps47
    go_wp2
    go_ret
    exact ⟨rfl, rfl⟩
  by_cases h112 : c = 112
  · subst h112
    go_enter Tryz.func47, Tryz.ntmps47
    go_wp2
    go_ret
    exact ⟨rfl, rfl⟩
  have e97 : ((c : Int) == 97) = false := by rw [beq_eq_false_iff_ne]; omega
  have e98 : ((c : Int) == 98) = false := by rw [beq_eq_false_iff_ne]; omega
  have e99 : ((c : Int) == 99) = false := by rw [beq_eq_false_iff_ne]; omega
  have e100 : ((c : Int) == 100) = false := by rw [beq_eq_false_iff_ne]; omega
  have e101 : ((c : Int) == 101) = false := by rw [beq_eq_false_iff_ne]; omega
  have e102 : ((c : Int) == 102) = false := by rw [beq_eq_false_iff_ne]; omega
  have e104 : ((c : Int) == 104) = false := by rw [beq_eq_false_iff_ne]; omega
  have e105 : ((c : Int) == 105) = false := by rw [beq_eq_false_iff_ne]; omega
  have e106 : ((c : Int) == 106) = false := by rw [beq_eq_false_iff_ne]; omega
  have e108 : ((c : Int) == 108) = false := by rw [beq_eq_false_iff_ne]; omega
  have e109 : ((c : Int) == 109) = false := by rw [beq_eq_false_iff_ne]; omega
  have e110 : ((c : Int) == 110) = false := by rw [beq_eq_false_iff_ne]; omega
  have e111 : ((c : Int) == 111) = false := by rw [beq_eq_false_iff_ne]; omega
  have e115 : ((c : Int) == 115) = false := by rw [beq_eq_false_iff_ne]; omega
  have e116 : ((c : Int) == 116) = false := by rw [beq_eq_false_iff_ne]; omega
  have e117 : ((c : Int) == 117) = false := by rw [beq_eq_false_iff_ne]; omega
  have e118 : ((c : Int) == 118) = false := by rw [beq_eq_false_iff_ne]; omega
  have e120 : ((c : Int) == 120) = false := by rw [beq_eq_false_iff_ne]; omega
  have e121 : ((c : Int) == 121) = false := by rw [beq_eq_false_iff_ne]; omega
  have e122 : ((c : Int) == 122) = false := by rw [beq_eq_false_iff_ne]; omega
  have e112 : ((c : Int) == 112) = false := by rw [beq_eq_false_iff_ne]; omega
  have hb : basicText c = [] := by
    unfold basicText
    simp only [h97, h98, h99, h100, h101, h102, h104, h105, h106, h108, h109, h110, h111, h115, h116, h117, h118, h120, h121, h122, h112, if_false]
  rw [hb]
  clear hb h97 h98 h99 h100 h101 h102 h104 h105 h106 h108 h109 h110 h111 h115 h116 h117 h118 h120 h121 h122 h112
  go_enter Tryz.func47, Tryz.ntmps47
  go_wp2
  go_ret
  exact ⟨rfl, rfl⟩
end Go.Proofs.YtidokamjbglkbaaGreatDoor

