/- The look at bounds, bindings, lifetimes, constants. -/
import Derived.Test.YtdapnoocmpbijaaGreatDoorY23
import Derived.Test.YtdapnoocmpbijaaGreatDoorY24
import Derived.Test.YtdapnoocmpbijaaGreatDoorY29
import Derived.Test.YtdapnoocmpbijaaGreatDoorY30
import Derived.Test.YtdapnoocmpbijaaGreatDoorY18
import Derived.Test.YtdapnoocmpbijaaGreatDoorY28
import Derived.Test.YtdapnoocmpbijaaGreatDoorY21
namespace Go.Proofs.YtdapnoocmpbijaaGreatDoor
open Go.RowKit

set_option maxHeartbeats 4000000 in
set_option maxRecDepth 100000 in
theorem other_bound (M B b deep bound left : Nat) (w : World) (c : UInt8) (nm : List UInt8) (n : Nat) (fl : Bool) (a : Option Addr) (m cap : Nat) (V : Nat → Array Value) (ks : List RT) (hk : ks.length = m) (hcap : m ≤ cap ∧ cap ≤ maxLen) (_ : n < 18446744073709551616) (_ : nm.length ≤ 2147483647) (hV : KidsIn B w a m V) (hT : ∀ i (h : i < ks.length), TreeAt M B w (V i) ks[i]) (hP : ∀ x ∈ ks, PieceC x)
    (hM : M ≤ 2147483647) (hm : m ≤ M) (ht : Tabs B w) (hB : B ≤ b) (hw : B ≤ w.heap.size) (hl : Lk b left w) (h1 : left ≤ 300) (h3 : deep ≤ 24) (h4 : bound ≤ 20) :
    Calls Tryz.prog 39 #[.pointer (some ⟨b, 0, none⟩), .agg (rv 17 c nm n fl (.slice a m cap)), .int .i64 deep, .int .i64 bound] w (LkP (Rt bound (.mk 17 c nm n fl ks)) (sizes ks) left B b w) := by
  have S := LkX.start (M := M) (B := B) (b := b) (rv 17 c nm n fl (.slice a m cap)) hl ht hw
  by_cases hm1 : 1 ≤ m
  · have hm' : decide ((1 : Int) ≤ (m : Int)) = true := by simp; omega
    by_cases hc1 : cap = 1
    · subst hc1
      obtain rfl : m = 1 := by omega
      match ks, hk with
      | [p0], hk =>
      obtain ⟨kb, off, kd0, c0, nm0, n0, fl0, ka0, km0, kc0, rfl, K0⟩ := kid_of hk hV hT 0 (by simp)
      change KidW M B p0 _ _ _ _ _ _ _ _ w at K0
      have HC0 := Lib.hid (fun w' (l : Nat) (h : LkX M B b (rv 17 c nm n fl (.slice (some ⟨kb, off, none⟩) 1 1)) w l w') => K0.call hw (hP p0 (by simp)) hM hB (show 0 ≤ 5 by decide) h3 (show bound ≤ 20 by omega) w' l h)
      have HA := Lib.hid (fun w' (l : Nat) (h : LkX M B b (rv 17 c nm n fl (.slice (some ⟨kb, off, none⟩) 1 1)) w l w') => all_call (want := 5) (deep := deep) (bound := bound) (a := some ⟨kb, off, none⟩) (m := 0) (V := V) (ks := []) 0 rfl (fun h => absurd h (by omega)) (fun i h => absurd h (by simp)) (fun x hx => by cases hx) hM (by omega) hB hw (by decide) h3 h4 w' l h)
      have HK0 := Lib.hid (fun w' (l : Int) (h : LkX M B b (rv 17 c nm n fl (.slice (some ⟨kb, off, none⟩) 1 1)) w l w') => K0.cells hw h)
      obtain ⟨k00, k01, k02, k03, k04, k05⟩ := HK0.out _ _ S
      simp only [Nat.zero_mul, Nat.add_zero] at k00 k01 k02 k03 k04 k05
      have HS := Lib.hid S
      clear S hl hV hT ht hP K0 hm hk
      go_enter Tryz.func39, Tryz.ntmps39
      go_wp2_with fail
      refine (HC0.out _ left HS.out (by omega)).mono ?_
      rintro e w1 h
      obtain ⟨bl, l, rfl, hb, hl1, kk⟩ := h
      cases bl with
      | false =>
        clear hb
        have S1 := HS.out.step kk hl1
        clear kk
        go_wp2
        go_ret
        exact LkP.no' S1
      | true =>
        obtain ⟨hq0, hs0, rfl⟩ := hb rfl
        have S1 := (HS.out.step kk hl1).cast (show _ = ((left - size p0 : Nat) : Int) by omega)
        have HQ0 := Lib.hid hq0
        clear kk hl1 hb hq0
        obtain ⟨_, _, _, _, _, b5⟩ := S1.cells
        have HS1 := Lib.hid S1
        clear S1
        go_wp2_with fail
        refine (HA.out _ (left - size p0) HS1.out (by omega)).mono ?_
        rintro e w2 h
        have hf := LkP.fin (Q := Rt bound (.mk 17 c nm n fl (p0 :: []))) (n := sizes (p0 :: [])) (left := left) h (fun hq => ⟨Rt.bound _ _ _ _ _ _ _ HQ0.out.1 (by simpa [fitsK] using HQ0.out.2) (fun x hx => (hq x hx).1) (fun x hx => by simpa [fitsK] using (hq x hx).2), by simp only [sizes]; omega, by omega⟩) HS1.out.base.kept
        obtain ⟨bl, l, rfl, hb, hl1, kk⟩ := h
        have HF := Lib.hid hf
        clear hf hb kk hl1
        go_wp2
        go_ret
        exact HF.out
    · match ks, hk with
      | [], hk => simp at hk; omega
      | p0 :: gs, hk =>
      obtain ⟨kb, off, kd0, c0, nm0, n0, fl0, ka0, km0, kc0, rfl, K0⟩ := kid_of hk hV hT 0 (by simp)
      change KidW M B p0 _ _ _ _ _ _ _ _ w at K0
      have HC0 := Lib.hid (fun w' (l : Nat) (h : LkX M B b (rv 17 c nm n fl (.slice (some ⟨kb, off, none⟩) m cap)) w l w') => K0.call hw (hP p0 (by simp)) hM hB (show 0 ≤ 5 by decide) h3 (show bound ≤ 20 by omega) w' l h)
      have HA := Lib.hid (fun w' (l : Nat) (h : LkX M B b (rv 17 c nm n fl (.slice (some ⟨kb, off, none⟩) m cap)) w l w') => all_call (want := 5) (deep := deep) (bound := bound) (cap - 1) (show gs.length = m - 1 by simp at hk; omega) (kids_tail hV (by omega)) (trees_tail hT) (fun x hx => hP x (by simp [hx])) hM (by omega) hB hw (by decide) h3 h4 w' l h)
      have HK0 := Lib.hid (fun w' (l : Int) (h : LkX M B b (rv 17 c nm n fl (.slice (some ⟨kb, off, none⟩) m cap)) w l w') => K0.cells hw h)
      obtain ⟨k00, k01, k02, k03, k04, k05⟩ := HK0.out _ _ S
      simp only [Nat.zero_mul, Nat.add_zero] at k00 k01 k02 k03 k04 k05
      have HS := Lib.hid S
      clear S hl hV hT ht hP K0 hm hk
      go_enter Tryz.func39, Tryz.ntmps39
      go_wp2_with fail
      refine (HC0.out _ left HS.out (by omega)).mono ?_
      rintro e w1 h
      obtain ⟨bl, l, rfl, hb, hl1, kk⟩ := h
      cases bl with
      | false =>
        clear hb
        have S1 := HS.out.step kk hl1
        clear kk
        go_wp2
        go_ret
        exact LkP.no' S1
      | true =>
        obtain ⟨hq0, hs0, rfl⟩ := hb rfl
        have S1 := (HS.out.step kk hl1).cast (show _ = ((left - size p0 : Nat) : Int) by omega)
        have HQ0 := Lib.hid hq0
        clear kk hl1 hb hq0
        obtain ⟨_, _, _, _, _, b5⟩ := S1.cells
        have HS1 := Lib.hid S1
        clear S1
        go_wp2_with fail
        refine (HA.out _ (left - size p0) HS1.out (by omega)).mono ?_
        rintro e w2 h
        have hf := LkP.fin (Q := Rt bound (.mk 17 c nm n fl (p0 :: gs))) (n := sizes (p0 :: gs)) (left := left) h (fun hq => ⟨Rt.bound _ _ _ _ _ _ _ HQ0.out.1 (by simpa [fitsK] using HQ0.out.2) (fun x hx => (hq x hx).1) (fun x hx => by simpa [fitsK] using (hq x hx).2), by simp only [sizes]; omega, by omega⟩) HS1.out.base.kept
        obtain ⟨bl, l, rfl, hb, hl1, kk⟩ := h
        have HF := Lib.hid hf
        clear hf hb kk hl1
        go_wp2
        go_ret
        exact HF.out
  · have hm' : decide ((1 : Int) ≤ (m : Int)) = false := by simp; omega
    have HS := Lib.hid S
    clear S hl hV hT ht hP
    go_enter Tryz.func39, Tryz.ntmps39
    go_wp2
    go_ret
    exact LkP.no' HS.out

set_option maxHeartbeats 4000000 in
set_option maxRecDepth 100000 in
theorem other_binding (M B b deep bound left : Nat) (w : World) (c : UInt8) (nm : List UInt8) (n : Nat) (fl : Bool) (a : Option Addr) (m cap : Nat) (V : Nat → Array Value) (ks : List RT) (hk : ks.length = m) (hcap : m ≤ cap ∧ cap ≤ maxLen) (_ : n < 18446744073709551616) (hnm : nm.length ≤ 2147483647) (hV : KidsIn B w a m V) (hT : ∀ i (h : i < ks.length), TreeAt M B w (V i) ks[i]) (hP : ∀ x ∈ ks, PieceC x)
    (hM : M ≤ 2147483647) (hm : m ≤ M) (ht : Tabs B w) (hB : B ≤ b) (hw : B ≤ w.heap.size) (hl : Lk b left w) (h1 : left ≤ 300) (h3 : deep ≤ 24) (h4 : bound ≤ 20) :
    Calls Tryz.prog 39 #[.pointer (some ⟨b, 0, none⟩), .agg (rv 18 c nm n fl (.slice a m cap)), .int .i64 deep, .int .i64 bound] w (LkP (Rt bound (.mk 18 c nm n fl ks)) (sizes ks) left B b w) := by
  have S := LkX.start (M := M) (B := B) (b := b) (rv 18 c nm n fl (.slice a m cap)) hl ht hw
  by_cases hm1 : m = 1
  · subst hm1
    match ks, hk with
    | [p0], _ =>
    obtain ⟨kb, off, kd0, c0, nm0, n0, fl0, ka0, km0, kc0, rfl, K0⟩ := kid_of rfl hV hT 0 (by simp)
    change KidW M B p0 _ _ _ _ _ _ _ _ w at K0
    have HC0 := Lib.hid (fun w' (l : Nat) (h : LkX M B b (rv 18 c nm n fl (.slice (some ⟨kb, off, none⟩) 1 cap)) w l w') => K0.call hw (hP p0 (by simp)) hM hB (show 1 ≤ 5 by decide) h3 (show bound ≤ 20 by omega) w' l h)
    have HK0 := Lib.hid (fun w' (l : Int) (h : LkX M B b (rv 18 c nm n fl (.slice (some ⟨kb, off, none⟩) 1 cap)) w l w') => K0.cells hw h)
    have HNM := Lib.hid (fun w' (l : Int) (h : LkX M B b (rv 18 c nm n fl (.slice (some ⟨kb, off, none⟩) 1 cap)) w l w') => name_any nm hnm B w' h.base.tabs)
    have HS := Lib.hid S
    clear S hl hV hT ht hP K0 hm
    cases hb : nameB nm with
    | false =>
      go_enter Tryz.func39, Tryz.ntmps39
      go_wp2_with (go_at_call 55; refine (HNM.out _ _ HS.out).mono ?_; rintro e w1 ⟨rfl, b1⟩; rw [hb])
      have S1 := HS.out.below b1
      clear b1
      go_wp2_with fail
      go_ret
      exact LkP.no' S1
    | true =>
      have HB := Lib.hid hb
      go_enter Tryz.func39, Tryz.ntmps39
      go_wp2_with (go_at_call 55; refine (HNM.out _ _ HS.out).mono ?_; rintro e w1 ⟨rfl, b1⟩; obtain ⟨_, _, _, _, _, a5⟩ := (HS.out.below b1).cells; obtain ⟨k00, k01, k02, k03, k04, k05⟩ := HK0.out _ _ (HS.out.below b1); simp only [Nat.zero_mul, Nat.add_zero] at k00 k01 k02 k03 k04 k05; rw [hb])
      refine (HC0.out _ left (HS.out.below b1) (by omega)).mono ?_
      rintro e w2 h
      have hf := LkP.fin (Q := Rt bound (.mk 18 c nm n fl [p0])) (n := sizes [p0]) (left := left) h (fun hq => ⟨Rt.binding _ _ _ _ _ _ HB.out hq.1 (by simpa [fitsK] using hq.2), by simp only [sizes]; omega, by omega⟩) (HS.out.below b1).base.kept
      obtain ⟨bl, l, rfl, hb2, hl1, kk⟩ := h
      have HF := Lib.hid hf
      clear hf hb2 kk hl1
      go_wp2
      go_ret
      exact HF.out
  · have hm' : ((m : Int) == 1) = false := by rw [beq_eq_false_iff_ne]; omega
    have HS := Lib.hid S
    clear S hl hV hT ht hP
    go_enter Tryz.func39, Tryz.ntmps39
    go_wp2
    go_ret
    exact LkP.no' HS.out

set_option maxHeartbeats 4000000 in
set_option maxRecDepth 100000 in
theorem other_life (M B b deep bound left : Nat) (w : World) (c : UInt8) (nm : List UInt8) (n : Nat) (fl : Bool) (a : Option Addr) (m cap : Nat) (V : Nat → Array Value) (ks : List RT) (hk : ks.length = m) (hcap : m ≤ cap ∧ cap ≤ maxLen) (_ : n < 18446744073709551616) (_ : nm.length ≤ 2147483647) (hV : KidsIn B w a m V) (hT : ∀ i (h : i < ks.length), TreeAt M B w (V i) ks[i]) (hP : ∀ x ∈ ks, PieceC x)
    (_ : M ≤ 2147483647) (hm : m ≤ M) (ht : Tabs B w) (_ : B ≤ b) (hw : B ≤ w.heap.size) (hl : Lk b left w) (_ : left ≤ 300) (_ : deep ≤ 24) (h4 : bound ≤ 20) :
    Calls Tryz.prog 39 #[.pointer (some ⟨b, 0, none⟩), .agg (rv 19 c nm n fl (.slice a m cap)), .int .i64 deep, .int .i64 bound] w (LkP (Rt bound (.mk 19 c nm n fl ks)) (sizes ks) left B b w) := by
  have S := LkX.start (M := M) (B := B) (b := b) (rv 19 c nm n fl (.slice a m cap)) hl ht hw
  by_cases hm1 : m = 0
  · subst hm1
    match ks, hk with
    | [], _ =>
    by_cases hn : n ≤ bound
    · have hn' : decide ((n : Int) ≤ (bound : Int)) = true := by simp; omega
      have HS := Lib.hid S
      clear S hl hV hT ht hP hm
      go_enter Tryz.func39, Tryz.ntmps39
      go_wp2
      go_ret
      exact LkP.yes (Rt.life _ _ _ _ _ hn) (Nat.zero_le _) (by simpa [sizes] using HS.out.base.look) HS.out.base.kept
    · have hn' : decide ((n : Int) ≤ (bound : Int)) = false := by simp; omega
      have HS := Lib.hid S
      clear S hl hV hT ht hP hm
      go_enter Tryz.func39, Tryz.ntmps39
      go_wp2
      go_ret
      exact LkP.no' HS.out
  · have hm' : ((m : Int) == 0) = false := by rw [beq_eq_false_iff_ne]; omega
    have HS := Lib.hid S
    clear S hl hV hT ht hP
    go_enter Tryz.func39, Tryz.ntmps39
    go_wp2
    go_ret
    exact LkP.no' HS.out

set_option maxHeartbeats 4000000 in
set_option maxRecDepth 100000 in
theorem other_numb (M B b deep bound left : Nat) (w : World) (c : UInt8) (nm : List UInt8) (n : Nat) (fl : Bool) (a : Option Addr) (m cap : Nat) (V : Nat → Array Value) (ks : List RT) (hk : ks.length = m) (hcap : m ≤ cap ∧ cap ≤ maxLen) (hn0 : n < 18446744073709551616) (_ : nm.length ≤ 2147483647) (hV : KidsIn B w a m V) (hT : ∀ i (h : i < ks.length), TreeAt M B w (V i) ks[i]) (hP : ∀ x ∈ ks, PieceC x)
    (_ : M ≤ 2147483647) (hm : m ≤ M) (ht : Tabs B w) (_ : B ≤ b) (hw : B ≤ w.heap.size) (hl : Lk b left w) (_ : left ≤ 300) (_ : deep ≤ 24) (_ : bound ≤ 20) :
    Calls Tryz.prog 39 #[.pointer (some ⟨b, 0, none⟩), .agg (rv 20 c nm n fl (.slice a m cap)), .int .i64 deep, .int .i64 bound] w (LkP (Rt bound (.mk 20 c nm n fl ks)) (sizes ks) left B b w) := by
  have S := LkX.start (M := M) (B := B) (b := b) (rv 20 c nm n fl (.slice a m cap)) hl ht hw
  by_cases hm1 : m = 0
  · subst hm1
    match ks, hk with
    | [], _ =>
    have HNM := Lib.hid (fun w' => isNumber_any (fun bl => bl = true → ∃ K, KindOk K c n fl) 20 c nm n fl (.slice a 0 cap) hn0 (fun bl h e => h e) w')
    have HS := Lib.hid S
    clear S hl hV hT ht hP hm
    go_enter Tryz.func39, Tryz.ntmps39
    go_wp2_with (go_at_call 60; refine (HNM.out _).mono ?_; rintro e w1 ⟨bl, rfl, hb, rfl⟩)
    cases bl with
    | false =>
      clear hb
      go_wp2_with fail
      go_ret
      exact LkP.no' (HS.out.alloc _)
    | true =>
      obtain ⟨K, hK⟩ := hb rfl
      have HK := Lib.hid hK
      clear hb hK
      go_wp2_with fail
      go_ret
      exact LkP.yes (Rt.num _ _ _ _ _ K HK.out hn0) (Nat.zero_le _) (by simpa [sizes] using (HS.out.alloc _).base.look) (HS.out.alloc _).base.kept
  · have hm' : ((m : Int) == 0) = false := by rw [beq_eq_false_iff_ne]; omega
    have HS := Lib.hid S
    clear S hl hV hT ht hP
    go_enter Tryz.func39, Tryz.ntmps39
    go_wp2
    go_ret
    exact LkP.no' HS.out

set_option maxHeartbeats 4000000 in
set_option maxRecDepth 100000 in
theorem other_hole21 (M B b deep bound left : Nat) (w : World) (c : UInt8) (nm : List UInt8) (n : Nat) (fl : Bool) (a : Option Addr) (m cap : Nat) (V : Nat → Array Value) (ks : List RT) (hk : ks.length = m) (hcap : m ≤ cap ∧ cap ≤ maxLen) (_ : n < 18446744073709551616) (_ : nm.length ≤ 2147483647) (hV : KidsIn B w a m V) (hT : ∀ i (h : i < ks.length), TreeAt M B w (V i) ks[i]) (hP : ∀ x ∈ ks, PieceC x)
    (_ : M ≤ 2147483647) (hm : m ≤ M) (ht : Tabs B w) (_ : B ≤ b) (hw : B ≤ w.heap.size) (hl : Lk b left w) (_ : left ≤ 300) (_ : deep ≤ 24) (_ : bound ≤ 20) :
    Calls Tryz.prog 39 #[.pointer (some ⟨b, 0, none⟩), .agg (rv 21 c nm n fl (.slice a m cap)), .int .i64 deep, .int .i64 bound] w (LkP (Rt bound (.mk 21 c nm n fl ks)) (sizes ks) left B b w) := by
  have S := LkX.start (M := M) (B := B) (b := b) (rv 21 c nm n fl (.slice a m cap)) hl ht hw
  by_cases hm1 : m = 0
  · subst hm1
    match ks, hk with
    | [], _ =>
    have HS := Lib.hid S
    clear S hl hV hT ht hP hm
    go_enter Tryz.func39, Tryz.ntmps39
    go_wp2
    go_ret
    exact LkP.yes (Rt.hole _ _ _ _ _) (Nat.zero_le _) (by simpa [sizes] using HS.out.base.look) HS.out.base.kept
  · have hm' : ((m : Int) == 0) = false := by rw [beq_eq_false_iff_ne]; omega
    have HS := Lib.hid S
    clear S hl hV hT ht hP
    go_enter Tryz.func39, Tryz.ntmps39
    go_wp2
    go_ret
    exact LkP.no' HS.out

end Go.Proofs.YtdapnoocmpbijaaGreatDoor

/- The look at trees: piece; RustRight, RustRightType. -/
namespace Go.Proofs.YtdapnoocmpbijaaGreatDoor
open Go.RowKit

set_option maxHeartbeats 2000000 in
theorem fits_any (kd : Int) (want : Nat) (hw : want ≤ 5) (w : World) : Calls Tryz.prog 35 #[.int .i64 kd, .int .i64 want] w fun e w' => e = .returned (.bool (decide (fitsK kd want))) ∧ w = w' := by
  have hcase : want = 0 ∨ want = 1 ∨ want = 2 ∨ want = 3 ∨ want = 4 ∨ want = 5 := by omega
  rcases hcase with rfl | rfl | rfl | rfl | rfl | rfl
  · obtain ⟨v, hv⟩ : ∃ v, decide (fitsK kd 0) = v := ⟨_, rfl⟩
    have e : (decide (1 ≤ kd) && decide (kd ≤ 6)) = v := by rw [← hv]; simp [fitsK, isPathK]
    rw [hv]
    have HE := Lib.hid e
    clear hv e
    go_enter Tryz.func35, Tryz.ntmps35
    go_wp2_with (go_at_call 36; refine (isPath_any kd _).mono ?_)
    rintro e w1 ⟨rfl, rfl⟩
    rw [HE.out]
    go_wp2
    go_ret
    exact ⟨rfl, rfl⟩
  · obtain ⟨v, hv⟩ : ∃ v, decide (fitsK kd 1) = v := ⟨_, rfl⟩
    have e : (decide (1 ≤ kd) && decide (kd ≤ 16)) = v := by rw [← hv]; simp [fitsK, isTypeK]
    rw [hv]
    have HE := Lib.hid e
    clear hv e
    by_cases h1 : 1 ≤ kd
    · go_enter Tryz.func35, Tryz.ntmps35
      go_wp2
      go_ret
      exact ⟨by rw [← HE.out]; simp [h1], rfl⟩
    · have h1' : decide (1 ≤ kd) = false := by simpa using h1
      go_enter Tryz.func35, Tryz.ntmps35
      go_wp2
      go_ret
      exact ⟨by rw [← HE.out]; simp [h1'], rfl⟩
  · obtain ⟨v, hv⟩ : ∃ v, decide (fitsK kd 2) = v := ⟨_, rfl⟩
    have HV := Lib.hid hv
    rw [hv]
    clear hv
    by_cases h1 : 1 ≤ kd
    · by_cases h2 : kd ≤ 16
      · have e : v = true := by rw [← HV.out]; simp [fitsK, isArgK, isTypeK, h1, h2]
        subst e
        go_enter Tryz.func35, Tryz.ntmps35
        go_wp2
        go_ret
        exact ⟨rfl, rfl⟩
      · have h2' : decide (kd ≤ 16) = false := by simpa using h2
        by_cases h3 : kd = 19
        · subst h3
          have e : v = true := by rw [← HV.out]; decide
          subst e
          go_enter Tryz.func35, Tryz.ntmps35
          go_wp2
          go_ret
          exact ⟨rfl, rfl⟩
        · have h3' : (kd == 19) = false := by rw [beq_eq_false_iff_ne]; exact h3
          by_cases h4 : kd = 20
          · subst h4
            have e : v = true := by rw [← HV.out]; decide
            subst e
            go_enter Tryz.func35, Tryz.ntmps35
            go_wp2
            go_ret
            exact ⟨rfl, rfl⟩
          · have h4' : (kd == 20) = false := by rw [beq_eq_false_iff_ne]; exact h4
            have e : (kd == 21) = v := by rw [← HV.out, Bool.eq_iff_iff]; simp [fitsK, isArgK, isTypeK, isConstK]; omega
            have HE := Lib.hid e
            clear e h3 h4
            go_enter Tryz.func35, Tryz.ntmps35
            go_wp2
            go_ret
            exact ⟨by rw [← HE.out]; rfl, rfl⟩
    · have h1' : decide (1 ≤ kd) = false := by simpa using h1
      have e : v = false := by rw [← HV.out]; simp [fitsK, isArgK, isTypeK, isConstK]; omega
      have h3' : (kd == 19) = false := by rw [beq_eq_false_iff_ne]; omega
      have h4' : (kd == 20) = false := by rw [beq_eq_false_iff_ne]; omega
      have h5' : (kd == 21) = false := by rw [beq_eq_false_iff_ne]; omega
      subst e
      go_enter Tryz.func35, Tryz.ntmps35
      go_wp2
      go_ret
      exact ⟨rfl, rfl⟩
  · refine (fits_const kd w).mono ?_
    rintro e w1 ⟨rfl, rfl⟩
    exact ⟨by simp [fitsK, isConstK], rfl⟩
  · obtain ⟨v, hv⟩ : ∃ v, decide (fitsK kd 4) = v := ⟨_, rfl⟩
    have e : (kd == 17) = v := by rw [← hv, Bool.eq_iff_iff]; simp [fitsK]
    rw [hv]
    have HE := Lib.hid e
    clear hv e
    go_enter Tryz.func35, Tryz.ntmps35
    go_wp2
    go_ret
    exact ⟨by rw [← HE.out]; rfl, rfl⟩
  · obtain ⟨v, hv⟩ : ∃ v, decide (fitsK kd 5) = v := ⟨_, rfl⟩
    have e : (kd == 18) = v := by rw [← hv, Bool.eq_iff_iff]; simp [fitsK]
    rw [hv]
    have HE := Lib.hid e
    clear hv e
    go_enter Tryz.func35, Tryz.ntmps35
    go_wp2
    go_ret
    exact ⟨by rw [← HE.out]; rfl, rfl⟩


/-- What path, plainType, other are handed, and what they answer. -/
def PartC (f : FuncId) (kd : Int) : Prop := ∀ (M B b deep bound left : Nat) (w : World) (c : UInt8) (nm : List UInt8) (n : Nat) (fl : Bool) (a : Option Addr) (m cap : Nat) (V : Nat → Array Value) (ks : List RT), ks.length = m → (m ≤ cap ∧ cap ≤ maxLen) → n < 18446744073709551616 → nm.length ≤ 2147483647 → KidsIn B w a m V →
  (∀ i (h : i < ks.length), TreeAt M B w (V i) ks[i]) → (∀ x ∈ ks, PieceC x) → M ≤ 2147483647 → m ≤ M → Tabs B w → B ≤ b → B ≤ w.heap.size → Lk b left w → left ≤ 300 → deep ≤ 24 → bound ≤ 20 →
    Calls Tryz.prog f #[.pointer (some ⟨b, 0, none⟩), .agg (rv kd c nm n fl (.slice a m cap)), .int .i64 deep, .int .i64 bound] w (LkP (Rt bound (.mk kd c nm n fl ks)) (sizes ks) left B b w)
theorem path_part {kd : Int} (h : isPathK kd) : PartC 37 kd := by
  have hk : kd = 1 ∨ kd = 2 ∨ kd = 3 ∨ kd = 4 ∨ kd = 5 ∨ kd = 6 := by unfold isPathK at h; omega
  rcases hk with rfl | rfl | rfl | rfl | rfl | rfl
  · exact path_crate
  · exact path_impl
  · exact path_timpl
  · exact path_tdef
  · exact path_nested
  · exact path_gen
theorem plain_part {kd : Int} (h : 7 ≤ kd ∧ kd ≤ 14) : PartC 38 kd := by
  have hk : kd = 7 ∨ kd = 8 ∨ kd = 9 ∨ kd = 10 ∨ kd = 11 ∨ kd = 12 ∨ kd = 13 ∨ kd = 14 := by omega
  rcases hk with rfl | rfl | rfl | rfl | rfl | rfl | rfl | rfl
  · exact plain_basic
  · exact plain_arr
  · exact plain_slice
  · exact plain_tuple
  · exact plain_ref
  · exact plain_mut
  · exact plain_cptr
  · exact plain_mptr
theorem other_part {kd : Int} (h : 15 ≤ kd ∧ kd ≤ 21) : PartC 39 kd := by
  have hk : kd = 15 ∨ kd = 16 ∨ kd = 17 ∨ kd = 18 ∨ kd = 19 ∨ kd = 20 ∨ kd = 21 := by omega
  rcases hk with rfl | rfl | rfl | rfl | rfl | rfl | rfl
  · exact other_fn
  · exact other_dyn
  · exact other_bound
  · exact other_binding
  · exact other_life
  · exact other_numb
  · exact other_hole21

theorem LkP.up {Q : Prop} {n left B b : Nat} {w0 w : World} {e : Ending} {w' : World} (h : LkP Q n left B b w e w') {Q' : Prop} {n' : Nat} (hq : Q → Q') (hn : n' = 1 + n) (k : KeptM ML B w0 w) : LkP Q' n' (left + 1) B b w0 e w' := by
  obtain ⟨bl, l, h1, h2, h3, h4⟩ := h
  exact ⟨bl, l, h1, fun hb => ⟨hq (h2 hb).1, by have := (h2 hb).2; omega, by have := (h2 hb).2; omega⟩, h3, k.trans h4⟩

set_option maxHeartbeats 4000000 in
set_option maxRecDepth 100000 in
theorem piece_all : ∀ (s : Nat) (t : RT), size t ≤ s → PieceC t := by
  intro s
  induction s with
  | zero => intro t h; have := size_pos t; omega
  | succ s ih =>
    intro t hs M B b want deep bound left w kd c nm n fl kv hM hT ht hB hw hl h1 h2 h3 h4
    generalize hv : rv kd c nm n fl kv = v at hT
    cases hT with
    | mk kd' c' nm' n' fl' a m cap V ks hn hk hc hnm hV hTr =>
      have hP : ∀ x ∈ ks, PieceC x := fun x hx => ih x (by have := size_mem hx; rw [size] at hs; omega)
      have hv0 := congrArg (fun x => x[0]?) hv
      have hv1 := congrArg (fun x => x[1]?) hv
      have hv2 := congrArg (fun x => x[2]?) hv
      have hv3 := congrArg (fun x => x[3]?) hv
      have hv4 := congrArg (fun x => x[4]?) hv
      have hv5 := congrArg (fun x => x[5]?) hv
      simp at hv0 hv1 hv2 hv3 hv4 hv5
      subst hv0; subst hv4; subst hv5
      obtain rfl : n = n' := by omega
      obtain rfl : c = c' := UInt8.toNat_inj.1 (by omega)
      obtain rfl : nm = nm' := bs_inj hv2
      clear hv hv1 hv2 hv3
      have hlt := hl.lt
      have hne : b ≠ w.heap.size := by omega
      have hne2 : w.heap.size ≠ b := by omega
      clear hlt
      have HF := Lib.hid (fun w => fits_any kd want h2 w)
      have HIP := Lib.hid (fun w => isPath_any kd w)
      have hl0 := hl.alloc (.cells (rv kd c nm n fl (.slice a m cap)) tRu)
      have k0 := (KeptM.refl (M := ML) (B := B) w).alloc (.cells (rv kd c nm n fl (.slice a m cap)) tRu)
      have c0 := hl0.cell
      have g0 := hl0.fz
      cases left with
      | zero =>
        have HL := Lib.hid (hl0.set (-1))
        have HK := Lib.hid (hl0.keeps hB k0 (.int .i64 (-1)))
        clear hl hl0 k0 hV hTr hP ht ih hs hk
        go_enter Tryz.func27, Tryz.ntmps27
        go_wp2
        go_ret
        exact LkP.no HL.out HK.out
      | succ l =>
        have H1 := hl0.set (l : Int)
        have K1 := hl0.keeps hB k0 (.int .i64 (l : Int))
        have hsz : ((w.alloc (.cells (rv kd c nm n fl (.slice a m cap)) tRu)).setCell ⟨b, 0, none⟩ (.int .i64 (l : Int))).heap.size = w.heap.size + 1 := by simp [World.setCell]
        have same : ∀ k, k < B → ((w.alloc (.cells (rv kd c nm n fl (.slice a m cap)) tRu)).setCell ⟨b, 0, none⟩ (.int .i64 (l : Int))).heap[k]? = w.heap[k]? := K1.same hw
        have HL := Lib.hid H1
        have HK := Lib.hid K1
        cases deep with
        | zero =>
          clear hl hl0 k0 hV hTr hP ht ih hs hk H1 K1 same hsz
          go_enter Tryz.func27, Tryz.ntmps27
          go_wp2
          go_ret
          exact LkP.no HL.out HK.out
        | succ d =>
          cases hfit : decide (fitsK kd want) with
          | false =>
            clear hl hl0 k0 hV hTr hP ht ih hs hk H1 K1 same hsz
            go_enter Tryz.func27, Tryz.ntmps27
            go_wp2_with (go_at_call 35; refine (HF.out _).mono ?_; rintro e w1 ⟨rfl, rfl⟩; rw [hfit])
            go_ret
            exact LkP.no HL.out HK.out
          | true =>
            have hf := of_decide_eq_true hfit
            have HFT := Lib.hid hf
            have hrange : isPathK kd ∨ (7 ≤ kd ∧ kd ≤ 14) ∨ (15 ≤ kd ∧ kd ≤ 21) := by
              have hwant : want = 0 ∨ want = 1 ∨ want = 2 ∨ want = 3 ∨ want = 4 ∨ want = 5 := by omega
              rcases hwant with rfl | rfl | rfl | rfl | rfl | rfl <;> simp [fitsK, isPathK, isTypeK, isArgK, isConstK] at hf ⊢ <;> omega
            have CALL : ∀ f, PartC f kd → Calls Tryz.prog f #[.pointer (some ⟨b, 0, none⟩), .agg (rv kd c nm n fl (.slice a m cap)), .int .i64 d, .int .i64 bound]
                ((w.alloc (.cells (rv kd c nm n fl (.slice a m cap)) tRu)).setCell ⟨b, 0, none⟩ (.int .i64 (l : Int))) (LkP (Rt bound (.mk kd c nm n fl ks)) (sizes ks) l B b ((w.alloc (.cells (rv kd c nm n fl (.slice a m cap)) tRu)).setCell ⟨b, 0, none⟩ (.int .i64 (l : Int)))) :=
              fun f hf => hf M B b d bound l _ c nm n fl a m cap V ks hk hc hn (by omega) (hV.mono (Nat.le_refl _) same) (fun i hi => (hTr i hi).mono (Nat.le_refl _) same) hP hM (by omega) (ht.same same) hB (by omega) H1 (by omega) (by omega) h4
            have UP : ∀ e w', LkP (Rt bound (.mk kd c nm n fl ks)) (sizes ks) l B b ((w.alloc (.cells (rv kd c nm n fl (.slice a m cap)) tRu)).setCell ⟨b, 0, none⟩ (.int .i64 (l : Int))) e w' → LkP (Rt bound (.mk kd c nm n fl ks) ∧ fitsK kd want) (size (.mk kd c nm n fl ks)) (l + 1) B b w e w' :=
              fun _ _ h => h.up (fun hq => ⟨hq, HFT.out⟩) (by rw [size]) HK.out
            have HU := Lib.hid UP
            rcases hrange with hp | hp | hp
            · have e1 : (decide (1 ≤ kd) && decide (kd ≤ 6)) = true := by unfold isPathK at hp; simp [hp]
              have HC := Lib.hid (CALL _ (path_part hp))
              clear CALL UP hl hl0 k0 hV hTr hP ht ih hs hk H1 K1 same hsz hf hp
              go_enter Tryz.func27, Tryz.ntmps27
              go_wp2_with (first
                | (go_at_call 35; refine (HF.out _).mono ?_; rintro e w1 ⟨rfl, rfl⟩; rw [hfit])
                | (go_at_call 36; refine (HIP.out _).mono ?_; rintro e w1 ⟨rfl, rfl⟩; rw [e1]))
              refine HC.out.mono ?_
              rintro e w2 h
              have hu := HU.out _ _ h
              obtain ⟨bl, q, rfl, hb, hl1, kk⟩ := h
              have HUU := Lib.hid hu
              clear hu hb hl1 kk
              go_wp2_with fail
              go_ret
              exact HUU.out
            · have e1 : (decide (1 ≤ kd) && decide (kd ≤ 6)) = false := by simp; omega
              have e2 : decide (kd ≤ 14) = true := by simp; omega
              have HC := Lib.hid (CALL _ (plain_part hp))
              clear CALL UP hl hl0 k0 hV hTr hP ht ih hs hk H1 K1 same hsz hf hp
              go_enter Tryz.func27, Tryz.ntmps27
              go_wp2_with (first
                | (go_at_call 35; refine (HF.out _).mono ?_; rintro e w1 ⟨rfl, rfl⟩; rw [hfit])
                | (go_at_call 36; refine (HIP.out _).mono ?_; rintro e w1 ⟨rfl, rfl⟩; rw [e1]))
              refine HC.out.mono ?_
              rintro e w2 h
              have hu := HU.out _ _ h
              obtain ⟨bl, q, rfl, hb, hl1, kk⟩ := h
              have HUU := Lib.hid hu
              clear hu hb hl1 kk
              go_wp2_with fail
              go_ret
              exact HUU.out
            · have e1 : (decide (1 ≤ kd) && decide (kd ≤ 6)) = false := by simp; omega
              have e2 : decide (kd ≤ 14) = false := by simp; omega
              have HC := Lib.hid (CALL _ (other_part hp))
              clear CALL UP hl hl0 k0 hV hTr hP ht ih hs hk H1 K1 same hsz hf hp
              go_enter Tryz.func27, Tryz.ntmps27
              go_wp2_with (first
                | (go_at_call 35; refine (HF.out _).mono ?_; rintro e w1 ⟨rfl, rfl⟩; rw [hfit])
                | (go_at_call 36; refine (HIP.out _).mono ?_; rintro e w1 ⟨rfl, rfl⟩; rw [e1]))
              refine HC.out.mono ?_
              rintro e w2 h
              have hu := HU.out _ _ h
              obtain ⟨bl, q, rfl, hb, hl1, kk⟩ := h
              have HUU := Lib.hid hu
              clear hu hb hl1 kk
              go_wp2_with fail
              go_ret
              exact HUU.out
end Go.Proofs.YtdapnoocmpbijaaGreatDoor

/- RustRightType. -/
namespace Go.Proofs.YtdapnoocmpbijaaGreatDoor
open Go.RowKit

theorem Tabs.raiseT {B B' : Nat} {w : World} (h : Tabs B w) (hB : B ≤ B') : Tabs B' w := by
  obtain ⟨W, h1, h2, h3⟩ := h; exact ⟨W, h1, by omega, h3⟩

set_option maxHeartbeats 2000000 in
set_option maxRecDepth 100000 in
theorem right_type (M B : Nat) (t : RT) (kd : Int) (c : UInt8) (nm : List UInt8) (n : Nat) (fl : Bool) (kv : Value) (w : World) (hM : M ≤ 2147483647) (hT : TreeAt M B w (rv kd c nm n fl kv) t) (ht : Tabs B w) (hB : B ≤ w.heap.size) :
    Calls Tryz.prog 21 #[.agg (rv kd c nm n fl kv)] w fun e w' => ∃ bl : Bool, e = .returned (.bool bl) ∧ (bl = true → Rt 0 t ∧ isTypeK t.kd ∧ size t ≤ 300) ∧ Below w.heap.size w w' := by
  have b1 : Below w.heap.size w (w.alloc (.cells (rv kd c nm n fl kv) tRu)) := (Below.refl w.heap.size w).alloc (Nat.le_refl _) _
  have b2 := b1.alloc (by simp) (.cells #[.int .i64 300] tL)
  have hl : Lk (w.heap.size + 1) (300 : Nat) ((w.alloc (.cells (rv kd c nm n fl kv) tRu)).alloc (.cells #[.int .i64 300] tL)) := by
    have := heap_alloc_new (w.alloc (.cells (rv kd c nm n fl kv) tRu)) (.cells #[.int .i64 300] tL)
    simpa [Lk] using this
  have same : ∀ k, k < B → ((w.alloc (.cells (rv kd c nm n fl kv) tRu)).alloc (.cells #[.int .i64 300] tL)).heap[k]? = w.heap[k]? := fun k hk => b2.block k (by omega)
  have HL := Lib.hid (piece_all _ t (Nat.le_refl _) M (w.heap.size + 1) (w.heap.size + 1) 1 24 0 300 _ kd c nm n fl kv hM ((hT.mono (Nat.le_refl _) same).mono (by omega) (fun _ _ => rfl)) ((ht.same same).raiseT (by omega)) (by omega) (by simp) hl (by omega) (by omega) (by omega) (by omega))
  have HB := Lib.hid b2
  clear hl hT ht b1 b2 same
  go_enter Tryz.func21, Tryz.ntmps21
  go_wp2_with fail
  refine HL.out.mono ?_
  rintro e w1 ⟨bl, l, rfl, hb, _, k⟩
  have b3 : Below w.heap.size w w1 := HB.out.trans ((k.below (by simp)).mono (by simp))
  clear k HL
  go_wp2
  go_ret
  exact ⟨bl, rfl, fun h => ⟨(hb h).1.1, by simpa [fitsK] using (hb h).1.2, (hb h).2.1⟩, b3⟩
end Go.Proofs.YtdapnoocmpbijaaGreatDoor

/- RustPiece, RustName. -/
namespace Go.Proofs.YtdapnoocmpbijaaGreatDoor
open Go.RowKit

/-- What RustPiece gives of a writer. -/
def pieceText (r : WR) : List UInt8 := if r.empty then r.out ++ [95] else r.out

set_option maxHeartbeats 4000000 in
set_option maxRecDepth 100000 in
theorem rustPiece_any (kd : Int) (c : UInt8) (nm : List UInt8) (m : Nat) (fl : Bool) (ks : Value) (P : Nat → World → Prop) (e : WR → WR) (n : Nat) (hP : Steady P)
    (hw : Writes 23 (.agg (rv kd c nm m fl ks)) P e n) (hn : n + 1 ≤ 1000000000) (he : (e (W0 false)).out.length ≤ n)
    (B : Nat) (w : World) (ht : Tabs B w) (hB : B ≤ w.heap.size) (hp : P B w) :
    Calls Tryz.prog 16 #[.agg (rv kd c nm m fl ks), .slice none 0 0] w fun en w' => en = .returned (.string (bs (pieceText (e (W0 false))))) ∧ Below w.heap.size w w' := by
  have b1 : Below w.heap.size w (w.alloc (.cells (rv kd c nm m fl ks) tRu)) := (Below.refl _ _).alloc (Nat.le_refl _) _
  have F := Lib.hid (Wr.fresh (ht.same fun k hk => (b1.mono hB).block k hk) (by simp; omega : B ≤ (w.alloc (.cells (rv kd c nm m fl ks) tRu)).heap.size) false)
  have p1 := Lib.hid (hP.2 _ (w.alloc (.cells (rv kd c nm m fl ks) tRu)).heap.size _ (hP.1 _ _ ((w.alloc (.cells (rv kd c nm m fl ks) tRu)).alloc (.cells ((W0 false).cs (.slice none 0 0) (.slice none 0 0) (.slice none 0 0) (.slice none 0 0)) tW)) hp ((b1.mono hB).alloc (by simp; omega) _)) (by simp; omega))
  have HW := Lib.hid hw
  have b2 := Lib.hid (b1.alloc (by simp) (.cells ((W0 false).cs (.slice none 0 0) (.slice none 0 0) (.slice none 0 0) (.slice none 0 0)) tW))
  clear b1 hw hp ht hB hP
  have e1 : (w.alloc (.cells (rv kd c nm m fl ks) tRu)).heap.size = w.heap.size + 1 := by simp
  rw [e1] at F p1
  clear e1
  have hl : (W0 false).out.length + n ≤ 1000000000 := by simp [W0]; omega
  have hl2 : (W0 false).cnt + n ≤ 1000000000 := by simp [W0]; omega
  obtain ⟨i0, hi, hz0, hz1, hz2⟩ := info_parts infoB
  go_enter Tryz.func16, Tryz.ntmps16
  go_wp2_with (go_at_call 23; refine (HW.out _ _ (W0 false) _ F.out p1.out hl hl2).mono ?_)
  rintro en w1 ⟨rfl, h1, k1⟩
  have b3 := b2.out.trans ((k1.below (by simp)).mono (by simp))
  clear k1 F p1 HW b2
  obtain ⟨r, hr⟩ : ∃ r, r = e (W0 false) := ⟨_, rfl⟩
  rw [← hr] at h1 he
  cases hem : r.empty with
  | false =>
    have c6 : w1.cell? ⟨w.heap.size + 1, 6, none⟩ = some (.bool false) := by
      obtain ⟨vo, vt, vm, vb, ts, ms, h⟩ := h1
      rw [← hem]; exact h.c6
    obtain ⟨vo, c0, cv⟩ := h1.text
    have E2 : Hid (pieceText (e (W0 false)) = r.out) := by rw [← hr]; show pieceText r = r.out; simp [pieceText, hem]
    clear h1 hr hem
    go_wp2
    go_ret
    exact ⟨by rw [E2.out]; rfl, b3⟩
  | true =>
    have E2 : Hid (pieceText (e (W0 false)) = r.out ++ [95]) := by rw [← hr]; show pieceText r = r.out ++ [95]; simp [pieceText, hem]
    obtain ⟨vo, vt, vm, vb, ts, ms, h⟩ := h1
    have c6 := h.c6
    rw [hem] at c6
    have d0 := h.c0
    have G := h.alloc (.cells #[.int .u8 (95 : UInt8).toNat] tB)
    have B3 := Lib.hid (b3.alloc (by have := b3.size; omega) (.cells #[.int .u8 (95 : UInt8).toNat] tB))
    have own := G.out
    have p1 := Lib.hid (one_new w1 (.int .u8 (95 : UInt8).toNat) tB)
    have p3 : r.out.length + 1 ≤ maxLen := by unfold maxLen; omega
    have p4 : (r.out.length + 1) * 1 ≤ 140737488355328 := by omega
    have p5 := G.hw
    have FIN : Hid (∀ (w2 : World) (v' : Value), (w1.alloc (.cells #[.int .u8 (95 : UInt8).toNat] tB)).grownBy w2 vo.ownBlock → w2.ownsRow (w.heap.size + 1) tB 1 v' (r.out.length + 1) (bv r.out ++ [.int .u8 (95 : UInt8).toNat]) →
        w2.heap[w.heap.size + 1]? = some (.cells (r.cs vo vt vm vb) tW (0, 0)) ∧ (w2.setCell ⟨w.heap.size + 1, 0, none⟩ v').cell? ⟨w.heap.size + 1, 0, none⟩ = some v' ∧
          (convert 41 9 v').run Tryz.prog (w2.setCell ⟨w.heap.size + 1, 0, none⟩ v') = .ok (.string (bs (r.out ++ [95]))) (w2.setCell ⟨w.heap.size + 1, 0, none⟩ v') ∧ Below w.heap.size w (w2.setCell ⟨w.heap.size + 1, 0, none⟩ v')) := by
      intro w2 v' hg hown
      have hown2 : w2.ownsRow (w.heap.size + 1) tB 1 v' (r.out ++ [95]).length (bv (r.out ++ [95])) := by
        have e1 : (r.out ++ [(95 : UInt8)]).length = r.out.length + 1 := by simp
        rw [e1]; simpa [bv] using hown
      obtain ⟨hb, h2⟩ := G.setOut hg hown2 (by simp)
      refine ⟨hb, h2.c0, conv_row h2.out, ?_⟩
      have g1 := B3.out.grown hg (by have := B3.out.size; exact this) (fun k e => by have := (rowKind G.out k e).1; omega)
      exact g1.setCell (p := ⟨w.heap.size + 1, 0, none⟩) (by simp) _
    clear h G b3 B3 hem hr
    go_wp2_with (at_builtin; refine wpList_append_own _ rfl _ _ 41 rfl (w.heap.size + 1) tB i0 (.int .u8 0) 1 1 Tryz.underlying41 hi hz0 hz1 hz2 rfl (by decide) _ _ _ rfl own ⟨w1.heap.size, 0, none⟩ 1 1 [.int .u8 (95 : UInt8).toNat] rfl rfl p1.out (by intro u hu; simp at hu; subst hu; rfl) p3 p4 p5 ?_)
    intro v' w2 hown' hg _
    obtain ⟨hb2, c0, cv, b4⟩ := (FIN.out : ∀ _ _, _ → _ → _) w2 v' hg (by simpa using hown')
    have d0' : w2.cell? ⟨w.heap.size + 1, 0, none⟩ = some vo := by rw [cellAt hb2]; rfl
    have g0' : w2.frozen? ⟨w.heap.size + 1, 0, none⟩ = false := Lib.frozen_of_heap hb2 0
    obtain ⟨ao', n', cap', rfl⟩ : ∃ ao n cap, v' = .slice ao n cap := by
      rcases hown'.2 with ⟨hv, _⟩ | ⟨g, cap, cur, hv, _⟩
      · exact ⟨_, _, _, hv⟩
      · exact ⟨_, _, _, hv⟩
    clear FIN hown' hg hb2 own p1
    go_wp2
    go_ret
    exact ⟨by rw [E2.out]; rfl, b4⟩
end Go.Proofs.YtdapnoocmpbijaaGreatDoor

/- RustFitsType; RustPiece of a right tree. -/
namespace Go.Proofs.YtdapnoocmpbijaaGreatDoor
open Go.RowKit

/-- A right and roomy type. -/
structure FitT (t : RT) : Prop where
  rt : Rt 0 t
  kd : isTypeK t.kd
  sz : size t ≤ 300
  room : Roomy (enc idW t).length (bnds idW 0 0 t)
/-- A tree as RustPiece writes it. -/
def pieceOf (t : RT) : List UInt8 := if emp t then enc idW t ++ [95] else enc idW t

set_option maxHeartbeats 4000000 in
set_option maxRecDepth 100000 in
theorem piece_text {M b0 : Nat} (t : RT) (hb : b0 ≤ 20) (hrt : Rt b0 t) (hk : isTypeK t.kd) (hs : size t ≤ 300) (kd : Int) (c : UInt8) (nm : List UInt8) (n : Nat) (fl : Bool) (ks : Value)
    (B : Nat) (w : World) (ht : Tabs B w) (hB : B ≤ w.heap.size) (hp : TreeAt M B w (rv kd c nm n fl ks) t) :
    Calls Tryz.prog 16 #[.agg (rv kd c nm n fl ks), .slice none 0 0] w fun en w' => en = .returned (.string (bs (pieceOf t))) ∧ Below w.heap.size w w' := by
  have hel := (enc_ok _ t (Nat.le_refl _) b0 hb hrt).2
  have hw := (wrote_all _ t b0 (Nat.le_refl _) hrt hb).piece hk
  have e0 : pieceText ((W0 false).tree t) = pieceOf t := by unfold pieceText pieceOf; simp [WR.tree, W0]
  have := rustPiece_any kd c nm n fl ks (fun B w => TreeAt M B w (rv kd c nm n fl ks) t) (fun r => r.tree t) 100360000 ⟨fun B w w' h1 h2 => h1.mono (Nat.le_refl _) fun k hk => h2.block k hk, fun B B' w h1 h2 => h1.mono h2 fun _ _ => rfl⟩ ?_ (by omega) (by simp [WR.tree, W0]; omega) B w ht hB hp
  · rw [e0] at this
    exact this
  · intro B b r w h1 h2 h3 h4
    exact hw M B b r w kd c nm n fl ks h2 h1 (by unfold room; omega)

set_option maxHeartbeats 4000000 in
set_option maxRecDepth 100000 in
theorem fitsType_any {M : Nat} (t : RT) (kd : Int) (c : UInt8) (nm : List UInt8) (n : Nat) (fl : Bool) (kv : Value) (hM : M ≤ 2147483647) (B : Nat) (w : World) (ht : Tabs B w) (hB : B ≤ w.heap.size) (hT : TreeAt M B w (rv kd c nm n fl kv) t) :
    Calls Tryz.prog 14 #[.agg (rv kd c nm n fl kv)] w fun e w' => ∃ bl : Bool, e = .returned (.bool bl) ∧ (bl = true → FitT t) ∧ Below w.heap.size w w' := by
  have b1 : Below w.heap.size w (w.alloc (.cells (rv kd c nm n fl kv) tRu)) := (Below.refl w.heap.size w).alloc (Nat.le_refl _) _
  have bx : (w.alloc (.cells (rv kd c nm n fl kv) tRu)).heap[w.heap.size]? = some (.cells (rv kd c nm n fl kv) tRu (0, 0)) := tree_new w _
  have HR := Lib.hid (right_type M B t kd c nm n fl kv _ hM (hT.mono (Nat.le_refl _) fun k hk => (b1.mono hB).block k hk) (ht.same fun k hk => (b1.mono hB).block k hk) (by have := b1.size; omega))
  have TT := Lib.hid (fun (w' : World) (b : Below w.heap.size w w') => (⟨hT.mono (Nat.le_refl _) fun k hk => b.block k (by omega), ht.same fun k hk => b.block k (by omega), by have := b.size; omega⟩ : TreeAt M B w' (rv kd c nm n fl kv) t ∧ Tabs B w' ∧ B ≤ w'.heap.size))
  have B1 := Lib.hid b1
  have BX := Lib.hid bx
  clear b1 bx hT ht hB hM
  go_enter Tryz.func14, Tryz.ntmps14
  go_wp2_with fail
  refine HR.out.mono ?_
  rintro e w1 ⟨bl, rfl, hb, b2⟩
  have bx1 := (b2.block w.heap.size (by simp)).trans BX.out
  have B2 := Lib.hid (B1.out.trans (b2.mono (by simp)))
  clear b2 HR
  cases bl with
  | false =>
    clear hb
    go_wp2
    go_ret
    exact ⟨false, rfl, fun h => absurd h (by decide), B2.out⟩
  | true =>
    obtain ⟨h1, h2, h3⟩ := hb rfl
    obtain ⟨t1, t2, t3⟩ := TT.out _ B2.out
    have HO := Lib.hid (rustRoomy_any t 0 (by omega) h1 h2 h3 kd c nm n fl kv B w1 t2 t3 t1)
    have HF := Lib.hid (fun h => FitT.mk h1 h2 h3 h)
    have a0 := cellAt bx1 0
    have a1 := cellAt bx1 1
    have a2 := cellAt bx1 2
    have a3 := cellAt bx1 3
    have a4 := cellAt bx1 4
    have a5 := cellAt bx1 5
    simp at a0 a1 a2 a3 a4 a5
    clear hb h1 h2 h3 t1 t2 t3 bx1 TT
    go_wp2_with fail
    refine HO.out.mono ?_
    rintro e w2 ⟨bl, rfl, hr, b3⟩
    have HFR := Lib.hid (fun h => HF.out (hr h))
    have B3 := Lib.hid (B2.out.trans (b3.mono (by have := B2.out.size; omega)))
    clear hr b3 HO
    cases bl with
    | false =>
      go_wp2
      go_ret
      exact ⟨false, rfl, fun h => absurd h (by decide), B3.out⟩
    | true =>
      go_wp2
      go_ret
      exact ⟨true, rfl, fun _ => HFR.out (by trivial), B3.out⟩
end Go.Proofs.YtdapnoocmpbijaaGreatDoor

