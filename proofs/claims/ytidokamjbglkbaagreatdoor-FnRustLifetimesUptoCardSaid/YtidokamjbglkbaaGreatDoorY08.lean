/- The look at bounds, bindings, lifetimes, constants. -/
import Derived.Test.YtidokamjbglkbaaGreatDoorY05
import Derived.Test.YtidokamjbglkbaaGreatDoorY06
import Derived.Test.YtidokamjbglkbaaGreatDoorY07
import Derived.Test.YtidokamjbglkbaaGreatDoorY01
namespace Go.Proofs.YtidokamjbglkbaaGreatDoor
open Go.RowKit

set_option maxHeartbeats 4000000 in
set_option maxRecDepth 100000 in
theorem other_bound (M B b deep bound left : Nat) (w : World) (c : UInt8) (nm : List UInt8) (n : Nat) (fl : Bool) (a : Option Addr) (m cap : Nat) (V : Nat → Array Value) (ks : List RT) (hk : ks.length = m) (hcap : m ≤ cap ∧ cap ≤ maxLen) (_ : n < 18446744073709551616) (_ : nm.length ≤ 2147483647) (hV : KidsIn B w a m V) (hT : ∀ i (h : i < ks.length), TreeAt M B w (V i) ks[i]) (hP : ∀ x ∈ ks, PieceC x)
    (hM : M ≤ 2147483647) (hm : m ≤ M) (ht : Tabs B w) (hB : B ≤ b) (hw : B ≤ w.heap.size) (hl : Lk b left w) (h1 : left ≤ 300) (h3 : deep ≤ 24) (h4 : bound ≤ 20) :
    Calls Tryz.prog 38 #[.pointer (some ⟨b, 0, none⟩), .agg (rv 17 c nm n fl (.slice a m cap)), .int .i64 deep, .int .i64 bound] w (LkP (Rt bound (.mk 17 c nm n fl ks)) (sizes ks) left B b w) := by
  have S := LkX.start (M := M) (B := B) (b := b) (rv 17 c nm n fl (.slice a m cap)) hl ht hw
  by_cases hm1 : 1 ≤ m
  · have hm' : decide ((1 : Int) ≤ (m : Int)) = true := by simp; omega
    by_cases hc1 : cap = 1
    · subst hc1
      obtain rfl : m = 1 := by omega
      match ks, hk with
      | [p0], hk =>
      obtain ⟨kb, off, kd0, c0, nm0, n0, fl0, ka0, km0, kc0, rfl, K0⟩ := kid_of hk hV hT 0 (by simp)
      change KidW M B p0 _ _ _ _ _ _ _ _ w at K0
      have HC0 := Lib.hid (fun w' (l : Nat) (h : LkX M B b (rv 17 c nm n fl (.slice (some ⟨kb, off, none⟩) 1 1)) w l w') => K0.call hw (hP p0 (by simp)) hM hB (show 0 ≤ 5 by decide) h3 (show bound ≤ 20 by omega) w' l h)
      have HA := Lib.hid (fun w' (l : Nat) (h : LkX M B b (rv 17 c nm n fl (.slice (some ⟨kb, off, none⟩) 1 1)) w l w') => all_call (want := 5) (deep := deep) (bound := bound) (a := some ⟨kb, off, none⟩) (m := 0) (V := V) (ks := []) 0 rfl (fun h => absurd h (by omega)) (fun i h => absurd h (by simp)) (fun x hx => by cases hx) hM (by omega) hB hw (by decide) h3 h4 w' l h)
      have HK0 := Lib.hid (fun w' (l : Int) (h : LkX M B b (rv 17 c nm n fl (.slice (some ⟨kb, off, none⟩) 1 1)) w l w') => K0.cells hw h)
      obtain ⟨k00, k01, k02, k03, k04, k05⟩ := HK0.out _ _ S
      simp only [Nat.zero_mul, Nat.add_zero] at k00 k01 k02 k03 k04 k05
      have HS := Lib.hid S
      clear S hl hV hT ht hP K0 hm hk
      go_enter Tryz.func38, Tryz.ntmps38
      go_wp2_with fail
      refine (HC0.out _ left HS.out (by omega)).mono ?_
      rintro e w1 h
      obtain ⟨bl, l, rfl, hb, hl1, kk⟩ := h
      cases bl with
      | false =>
        clear hb
        have S1 := HS.out.step kk hl1
        clear kk
        go_wp2
        go_ret
        exact LkP.no' S1
      | true =>
        obtain ⟨hq0, hs0, rfl⟩ := hb rfl
        have S1 := (HS.out.step kk hl1).cast (show _ = ((left - size p0 : Nat) : Int) by omega)
        have HQ0 := Lib.hid hq0
        clear kk hl1 hb hq0
        obtain ⟨_, _, _, _, _, b5⟩ := S1.cells
        have HS1 := Lib.hid S1
        clear S1
        go_wp2_with fail
        refine (HA.out _ (left - size p0) HS1.out (by omega)).mono ?_
        rintro e w2 h
        have hf := LkP.fin (Q := Rt bound (.mk 17 c nm n fl (p0 :: []))) (n := sizes (p0 :: [])) (left := left) h (fun hq => ⟨Rt.bound _ _ _ _ _ _ _ HQ0.out.1 (by simpa [fitsK] using HQ0.out.2) (fun x hx => (hq x hx).1) (fun x hx => by simpa [fitsK] using (hq x hx).2), by simp only [sizes]; omega, by omega⟩) HS1.out.base.kept
        obtain ⟨bl, l, rfl, hb, hl1, kk⟩ := h
        have HF := Lib.hid hf
        clear hf hb kk hl1
        go_wp2
        go_ret
        exact HF.out
    · match ks, hk with
      | [], hk => simp at hk; omega
      | p0 :: gs, hk =>
      obtain ⟨kb, off, kd0, c0, nm0, n0, fl0, ka0, km0, kc0, rfl, K0⟩ := kid_of hk hV hT 0 (by simp)
      change KidW M B p0 _ _ _ _ _ _ _ _ w at K0
      have HC0 := Lib.hid (fun w' (l : Nat) (h : LkX M B b (rv 17 c nm n fl (.slice (some ⟨kb, off, none⟩) m cap)) w l w') => K0.call hw (hP p0 (by simp)) hM hB (show 0 ≤ 5 by decide) h3 (show bound ≤ 20 by omega) w' l h)
      have HA := Lib.hid (fun w' (l : Nat) (h : LkX M B b (rv 17 c nm n fl (.slice (some ⟨kb, off, none⟩) m cap)) w l w') => all_call (want := 5) (deep := deep) (bound := bound) (cap - 1) (show gs.length = m - 1 by simp at hk; omega) (kids_tail hV (by omega)) (trees_tail hT) (fun x hx => hP x (by simp [hx])) hM (by omega) hB hw (by decide) h3 h4 w' l h)
      have HK0 := Lib.hid (fun w' (l : Int) (h : LkX M B b (rv 17 c nm n fl (.slice (some ⟨kb, off, none⟩) m cap)) w l w') => K0.cells hw h)
      obtain ⟨k00, k01, k02, k03, k04, k05⟩ := HK0.out _ _ S
      simp only [Nat.zero_mul, Nat.add_zero] at k00 k01 k02 k03 k04 k05
      have HS := Lib.hid S
      clear S hl hV hT ht hP K0 hm hk
      go_enter Tryz.func38, Tryz.ntmps38
      go_wp2_with fail
      refine (HC0.out _ left HS.out (by omega)).mono ?_
      rintro e w1 h
      obtain ⟨bl, l, rfl, hb, hl1, kk⟩ := h
      cases bl with
      | false =>
        clear hb
        have S1 := HS.out.step kk hl1
        clear kk
        go_wp2
        go_ret
        exact LkP.no' S1
      | true =>
        obtain ⟨hq0, hs0, rfl⟩ := hb rfl
        have S1 := (HS.out.step kk hl1).cast (show _ = ((left - size p0 : Nat) : Int) by omega)
        have HQ0 := Lib.hid hq0
        clear kk hl1 hb hq0
        obtain ⟨_, _, _, _, _, b5⟩ := S1.cells
        have HS1 := Lib.hid S1
        clear S1
        go_wp2_with fail
        refine (HA.out _ (left - size p0) HS1.out (by omega)).mono ?_
        rintro e w2 h
        have hf := LkP.fin (Q := Rt bound (.mk 17 c nm n fl (p0 :: gs))) (n := sizes (p0 :: gs)) (left := left) h (fun hq => ⟨Rt.bound _ _ _ _ _ _ _ HQ0.out.1 (by simpa [fitsK] using HQ0.out.2) (fun x hx => (hq x hx).1) (fun x hx => by simpa [fitsK] using (hq x hx).2), by simp only [sizes]; omega, by omega⟩) HS1.out.base.kept
        obtain ⟨bl, l, rfl, hb, hl1, kk⟩ := h
        have HF := Lib.hid hf
        clear hf hb kk hl1
        go_wp2
        go_ret
        exact HF.out
  · have hm' : decide ((1 : Int) ≤ (m : Int)) = false := by simp; omega
    have HS := Lib.hid S
    clear S hl hV hT ht hP
    go_enter Tryz.func38, Tryz.ntmps38
    go_wp2
    go_ret
    exact LkP.no' HS.out

set_option maxHeartbeats 4000000 in
set_option maxRecDepth 100000 in
theorem other_binding (M B b deep bound left : Nat) (w : World) (c : UInt8) (nm : List UInt8) (n : Nat) (fl : Bool) (a : Option Addr) (m cap : Nat) (V : Nat → Array Value) (ks : List RT) (hk : ks.length = m) (hcap : m ≤ cap ∧ cap ≤ maxLen) (_ : n < 18446744073709551616) (hnm : nm.length ≤ 2147483647) (hV : KidsIn B w a m V) (hT : ∀ i (h : i < ks.length), TreeAt M B w (V i) ks[i]) (hP : ∀ x ∈ ks, PieceC x)
    (hM : M ≤ 2147483647) (hm : m ≤ M) (ht : Tabs B w) (hB : B ≤ b) (hw : B ≤ w.heap.size) (hl : Lk b left w) (h1 : left ≤ 300) (h3 : deep ≤ 24) (h4 : bound ≤ 20) :
    Calls Tryz.prog 38 #[.pointer (some ⟨b, 0, none⟩), .agg (rv 18 c nm n fl (.slice a m cap)), .int .i64 deep, .int .i64 bound] w (LkP (Rt bound (.mk 18 c nm n fl ks)) (sizes ks) left B b w) := by
  have S := LkX.start (M := M) (B := B) (b := b) (rv 18 c nm n fl (.slice a m cap)) hl ht hw
  by_cases hm1 : m = 1
  · subst hm1
    match ks, hk with
    | [p0], _ =>
    obtain ⟨kb, off, kd0, c0, nm0, n0, fl0, ka0, km0, kc0, rfl, K0⟩ := kid_of rfl hV hT 0 (by simp)
    change KidW M B p0 _ _ _ _ _ _ _ _ w at K0
    have HC0 := Lib.hid (fun w' (l : Nat) (h : LkX M B b (rv 18 c nm n fl (.slice (some ⟨kb, off, none⟩) 1 cap)) w l w') => K0.call hw (hP p0 (by simp)) hM hB (show 1 ≤ 5 by decide) h3 (show bound ≤ 20 by omega) w' l h)
    have HK0 := Lib.hid (fun w' (l : Int) (h : LkX M B b (rv 18 c nm n fl (.slice (some ⟨kb, off, none⟩) 1 cap)) w l w') => K0.cells hw h)
    have HNM := Lib.hid (fun w' (l : Int) (h : LkX M B b (rv 18 c nm n fl (.slice (some ⟨kb, off, none⟩) 1 cap)) w l w') => name_any nm hnm B w' h.base.tabs)
    have HS := Lib.hid S
    clear S hl hV hT ht hP K0 hm
    cases hb : nameB nm with
    | false =>
      go_enter Tryz.func38, Tryz.ntmps38
      go_wp2_with (go_at_call 45; refine (HNM.out _ _ HS.out).mono ?_; rintro e w1 ⟨rfl, b1⟩; rw [hb])
      have S1 := HS.out.below b1
      clear b1
      go_wp2_with fail
      go_ret
      exact LkP.no' S1
    | true =>
      have HB := Lib.hid hb
      go_enter Tryz.func38, Tryz.ntmps38
      go_wp2_with (go_at_call 45; refine (HNM.out _ _ HS.out).mono ?_; rintro e w1 ⟨rfl, b1⟩; obtain ⟨_, _, _, _, _, a5⟩ := (HS.out.below b1).cells; obtain ⟨k00, k01, k02, k03, k04, k05⟩ := HK0.out _ _ (HS.out.below b1); simp only [Nat.zero_mul, Nat.add_zero] at k00 k01 k02 k03 k04 k05; rw [hb])
      refine (HC0.out _ left (HS.out.below b1) (by omega)).mono ?_
      rintro e w2 h
      have hf := LkP.fin (Q := Rt bound (.mk 18 c nm n fl [p0])) (n := sizes [p0]) (left := left) h (fun hq => ⟨Rt.binding _ _ _ _ _ _ HB.out hq.1 (by simpa [fitsK] using hq.2), by simp only [sizes]; omega, by omega⟩) (HS.out.below b1).base.kept
      obtain ⟨bl, l, rfl, hb2, hl1, kk⟩ := h
      have HF := Lib.hid hf
      clear hf hb2 kk hl1
      go_wp2
      go_ret
      exact HF.out
  · have hm' : ((m : Int) == 1) = false := by rw [beq_eq_false_iff_ne]; omega
    have HS := Lib.hid S
    clear S hl hV hT ht hP
    go_enter Tryz.func38, Tryz.ntmps38
    go_wp2
    go_ret
    exact LkP.no' HS.out

set_option maxHeartbeats 4000000 in
set_option maxRecDepth 100000 in
theorem other_life (M B b deep bound left : Nat) (w : World) (c : UInt8) (nm : List UInt8) (n : Nat) (fl : Bool) (a : Option Addr) (m cap : Nat) (V : Nat → Array Value) (ks : List RT) (hk : ks.length = m) (hcap : m ≤ cap ∧ cap ≤ maxLen) (_ : n < 18446744073709551616) (_ : nm.length ≤ 2147483647) (hV : KidsIn B w a m V) (hT : ∀ i (h : i < ks.length), TreeAt M B w (V i) ks[i]) (hP : ∀ x ∈ ks, PieceC x)
    (_ : M ≤ 2147483647) (hm : m ≤ M) (ht : Tabs B w) (_ : B ≤ b) (hw : B ≤ w.heap.size) (hl : Lk b left w) (_ : left ≤ 300) (_ : deep ≤ 24) (h4 : bound ≤ 20) :
    Calls Tryz.prog 38 #[.pointer (some ⟨b, 0, none⟩), .agg (rv 19 c nm n fl (.slice a m cap)), .int .i64 deep, .int .i64 bound] w (LkP (Rt bound (.mk 19 c nm n fl ks)) (sizes ks) left B b w) := by
  have S := LkX.start (M := M) (B := B) (b := b) (rv 19 c nm n fl (.slice a m cap)) hl ht hw
  by_cases hm1 : m = 0
  · subst hm1
    match ks, hk with
    | [], _ =>
    by_cases hn : n ≤ bound
    · have hn' : decide ((n : Int) ≤ (bound : Int)) = true := by simp; omega
      have HS := Lib.hid S
      clear S hl hV hT ht hP hm
      go_enter Tryz.func38, Tryz.ntmps38
      go_wp2
      go_ret
      exact LkP.yes (Rt.life _ _ _ _ _ hn) (Nat.zero_le _) (by simpa [sizes] using HS.out.base.look) HS.out.base.kept
    · have hn' : decide ((n : Int) ≤ (bound : Int)) = false := by simp; omega
      have HS := Lib.hid S
      clear S hl hV hT ht hP hm
      go_enter Tryz.func38, Tryz.ntmps38
      go_wp2
      go_ret
      exact LkP.no' HS.out
  · have hm' : ((m : Int) == 0) = false := by rw [beq_eq_false_iff_ne]; omega
    have HS := Lib.hid S
    clear S hl hV hT ht hP
    go_enter Tryz.func38, Tryz.ntmps38
    go_wp2
    go_ret
    exact LkP.no' HS.out

set_option maxHeartbeats 4000000 in
set_option maxRecDepth 100000 in
theorem other_numb (M B b deep bound left : Nat) (w : World) (c : UInt8) (nm : List UInt8) (n : Nat) (fl : Bool) (a : Option Addr) (m cap : Nat) (V : Nat → Array Value) (ks : List RT) (hk : ks.length = m) (hcap : m ≤ cap ∧ cap ≤ maxLen) (hn0 : n < 18446744073709551616) (_ : nm.length ≤ 2147483647) (hV : KidsIn B w a m V) (hT : ∀ i (h : i < ks.length), TreeAt M B w (V i) ks[i]) (hP : ∀ x ∈ ks, PieceC x)
    (_ : M ≤ 2147483647) (hm : m ≤ M) (ht : Tabs B w) (_ : B ≤ b) (hw : B ≤ w.heap.size) (hl : Lk b left w) (_ : left ≤ 300) (_ : deep ≤ 24) (_ : bound ≤ 20) :
    Calls Tryz.prog 38 #[.pointer (some ⟨b, 0, none⟩), .agg (rv 20 c nm n fl (.slice a m cap)), .int .i64 deep, .int .i64 bound] w (LkP (Rt bound (.mk 20 c nm n fl ks)) (sizes ks) left B b w) := by
  have S := LkX.start (M := M) (B := B) (b := b) (rv 20 c nm n fl (.slice a m cap)) hl ht hw
  by_cases hm1 : m = 0
  · subst hm1
    match ks, hk with
    | [], _ =>
    have HNM := Lib.hid (fun w' => isNumber_any (fun bl => bl = true → ∃ K, KindOk K c n fl) 20 c nm n fl (.slice a 0 cap) hn0 (fun bl h e => h e) w')
    have HS := Lib.hid S
    clear S hl hV hT ht hP hm
    go_enter Tryz.func38, Tryz.ntmps38
    go_wp2_with (go_at_call 50; refine (HNM.out _).mono ?_; rintro e w1 ⟨bl, rfl, hb, rfl⟩)
    cases bl with
    | false =>
      clear hb
      go_wp2_with fail
      go_ret
      exact LkP.no' (HS.out.alloc _)
    | true =>
      obtain ⟨K, hK⟩ := hb rfl
      have HK := Lib.hid hK
      clear hb hK
      go_wp2_with fail
      go_ret
      exact LkP.yes (Rt.num _ _ _ _ _ K HK.out hn0) (Nat.zero_le _) (by simpa [sizes] using (HS.out.alloc _).base.look) (HS.out.alloc _).base.kept
  · have hm' : ((m : Int) == 0) = false := by rw [beq_eq_false_iff_ne]; omega
    have HS := Lib.hid S
    clear S hl hV hT ht hP
    go_enter Tryz.func38, Tryz.ntmps38
    go_wp2
    go_ret
    exact LkP.no' HS.out

set_option maxHeartbeats 4000000 in
set_option maxRecDepth 100000 in
theorem other_hole21 (M B b deep bound left : Nat) (w : World) (c : UInt8) (nm : List UInt8) (n : Nat) (fl : Bool) (a : Option Addr) (m cap : Nat) (V : Nat → Array Value) (ks : List RT) (hk : ks.length = m) (hcap : m ≤ cap ∧ cap ≤ maxLen) (_ : n < 18446744073709551616) (_ : nm.length ≤ 2147483647) (hV : KidsIn B w a m V) (hT : ∀ i (h : i < ks.length), TreeAt M B w (V i) ks[i]) (hP : ∀ x ∈ ks, PieceC x)
    (_ : M ≤ 2147483647) (hm : m ≤ M) (ht : Tabs B w) (_ : B ≤ b) (hw : B ≤ w.heap.size) (hl : Lk b left w) (_ : left ≤ 300) (_ : deep ≤ 24) (_ : bound ≤ 20) :
    Calls Tryz.prog 38 #[.pointer (some ⟨b, 0, none⟩), .agg (rv 21 c nm n fl (.slice a m cap)), .int .i64 deep, .int .i64 bound] w (LkP (Rt bound (.mk 21 c nm n fl ks)) (sizes ks) left B b w) := by
  have S := LkX.start (M := M) (B := B) (b := b) (rv 21 c nm n fl (.slice a m cap)) hl ht hw
  by_cases hm1 : m = 0
  · subst hm1
    match ks, hk with
    | [], _ =>
    have HS := Lib.hid S
    clear S hl hV hT ht hP hm
    go_enter Tryz.func38, Tryz.ntmps38
    go_wp2
    go_ret
    exact LkP.yes (Rt.hole _ _ _ _ _) (Nat.zero_le _) (by simpa [sizes] using HS.out.base.look) HS.out.base.kept
  · have hm' : ((m : Int) == 0) = false := by rw [beq_eq_false_iff_ne]; omega
    have HS := Lib.hid S
    clear S hl hV hT ht hP
    go_enter Tryz.func38, Tryz.ntmps38
    go_wp2
    go_ret
    exact LkP.no' HS.out

end Go.Proofs.YtidokamjbglkbaaGreatDoor

/- The look at trees: piece; RustRight, RustRightType. -/
namespace Go.Proofs.YtidokamjbglkbaaGreatDoor
open Go.RowKit

set_option maxHeartbeats 2000000 in
theorem fits_any (kd : Int) (want : Nat) (hw : want ≤ 5) (w : World) : Calls Tryz.prog 34 #[.int .i64 kd, .int .i64 want] w fun e w' => e = .returned (.bool (decide (fitsK kd want))) ∧ w = w' := by
  have hcase : want = 0 ∨ want = 1 ∨ want = 2 ∨ want = 3 ∨ want = 4 ∨ want = 5 := by omega
  rcases hcase with rfl | rfl | rfl | rfl | rfl | rfl
  · obtain ⟨v, hv⟩ : ∃ v, decide (fitsK kd 0) = v := ⟨_, rfl⟩
    have e : (decide (1 ≤ kd) && decide (kd ≤ 6)) = v := by rw [← hv]; simp [fitsK, isPathK]
    rw [hv]
    have HE := Lib.hid e
    clear hv e
    go_enter Tryz.func34, Tryz.ntmps34
    go_wp2_with (go_at_call 35; refine (isPath_any kd _).mono ?_)
    rintro e w1 ⟨rfl, rfl⟩
    rw [HE.out]
    go_wp2
    go_ret
    exact ⟨rfl, rfl⟩
  · obtain ⟨v, hv⟩ : ∃ v, decide (fitsK kd 1) = v := ⟨_, rfl⟩
    have e : (decide (1 ≤ kd) && decide (kd ≤ 16)) = v := by rw [← hv]; simp [fitsK, isTypeK]
    rw [hv]
    have HE := Lib.hid e
    clear hv e
    by_cases h1 : 1 ≤ kd
    · go_enter Tryz.func34, Tryz.ntmps34
      go_wp2
      go_ret
      exact ⟨by rw [← HE.out]; simp [h1], rfl⟩
    · have h1' : decide (1 ≤ kd) = false := by simpa using h1
      go_enter Tryz.func34, Tryz.ntmps34
      go_wp2
      go_ret
      exact ⟨by rw [← HE.out]; simp [h1'], rfl⟩
  · obtain ⟨v, hv⟩ : ∃ v, decide (fitsK kd 2) = v := ⟨_, rfl⟩
    have HV := Lib.hid hv
    rw [hv]
    clear hv
    by_cases h1 : 1 ≤ kd
    · by_cases h2 : kd ≤ 16
      · have e : v = true := by rw [← HV.out]; simp [fitsK, isArgK, isTypeK, h1, h2]
        subst e
        go_enter Tryz.func34, Tryz.ntmps34
        go_wp2
        go_ret
        exact ⟨rfl, rfl⟩
      · have h2' : decide (kd ≤ 16) = false := by simpa using h2
        by_cases h3 : kd = 19
        · subst h3
          have e : v = true := by rw [← HV.out]; decide
          subst e
          go_enter Tryz.func34, Tryz.ntmps34
          go_wp2
          go_ret
          exact ⟨rfl, rfl⟩
        · have h3' : (kd == 19) = false := by rw [beq_eq_false_iff_ne]; exact h3
          by_cases h4 : kd = 20
          · subst h4
            have e : v = true := by rw [← HV.out]; decide
            subst e
            go_enter Tryz.func34, Tryz.ntmps34
            go_wp2
            go_ret
            exact ⟨rfl, rfl⟩
          · have h4' : (kd == 20) = false := by rw [beq_eq_false_iff_ne]; exact h4
            have e : (kd == 21) = v := by rw [← HV.out, Bool.eq_iff_iff]; simp [fitsK, isArgK, isTypeK, isConstK]; omega
            have HE := Lib.hid e
            clear e h3 h4
            go_enter Tryz.func34, Tryz.ntmps34
            go_wp2
            go_ret
            exact ⟨by rw [← HE.out]; rfl, rfl⟩
    · have h1' : decide (1 ≤ kd) = false := by simpa using h1
      have e : v = false := by rw [← HV.out]; simp [fitsK, isArgK, isTypeK, isConstK]; omega
      have h3' : (kd == 19) = false := by rw [beq_eq_false_iff_ne]; omega
      have h4' : (kd == 20) = false := by rw [beq_eq_false_iff_ne]; omega
      have h5' : (kd == 21) = false := by rw [beq_eq_false_iff_ne]; omega
      subst e
      go_enter Tryz.func34, Tryz.ntmps34
      go_wp2
      go_ret
      exact ⟨rfl, rfl⟩
  · refine (fits_const kd w).mono ?_
    rintro e w1 ⟨rfl, rfl⟩
    exact ⟨by simp [fitsK, isConstK], rfl⟩
  · obtain ⟨v, hv⟩ : ∃ v, decide (fitsK kd 4) = v := ⟨_, rfl⟩
    have e : (kd == 17) = v := by rw [← hv, Bool.eq_iff_iff]; simp [fitsK]
    rw [hv]
    have HE := Lib.hid e
    clear hv e
    go_enter Tryz.func34, Tryz.ntmps34
    go_wp2
    go_ret
    exact ⟨by rw [← HE.out]; rfl, rfl⟩
  · obtain ⟨v, hv⟩ : ∃ v, decide (fitsK kd 5) = v := ⟨_, rfl⟩
    have e : (kd == 18) = v := by rw [← hv, Bool.eq_iff_iff]; simp [fitsK]
    rw [hv]
    have HE := Lib.hid e
    clear hv e
    go_enter Tryz.func34, Tryz.ntmps34
    go_wp2
    go_ret
    exact ⟨by rw [← HE.out]; rfl, rfl⟩


/-- What path, plainType, other are handed, and what they answer. -/
def PartC (f : FuncId) (kd : Int) : Prop := ∀ (M B b deep bound left : Nat) (w : World) (c : UInt8) (nm : List UInt8) (n : Nat) (fl : Bool) (a : Option Addr) (m cap : Nat) (V : Nat → Array Value) (ks : List RT), ks.length = m → (m ≤ cap ∧ cap ≤ maxLen) → n < 18446744073709551616 → nm.length ≤ 2147483647 → KidsIn B w a m V →
  (∀ i (h : i < ks.length), TreeAt M B w (V i) ks[i]) → (∀ x ∈ ks, PieceC x) → M ≤ 2147483647 → m ≤ M → Tabs B w → B ≤ b → B ≤ w.heap.size → Lk b left w → left ≤ 300 → deep ≤ 24 → bound ≤ 20 →
    Calls Tryz.prog f #[.pointer (some ⟨b, 0, none⟩), .agg (rv kd c nm n fl (.slice a m cap)), .int .i64 deep, .int .i64 bound] w (LkP (Rt bound (.mk kd c nm n fl ks)) (sizes ks) left B b w)
theorem path_part {kd : Int} (h : isPathK kd) : PartC 36 kd := by
  have hk : kd = 1 ∨ kd = 2 ∨ kd = 3 ∨ kd = 4 ∨ kd = 5 ∨ kd = 6 := by unfold isPathK at h; omega
  rcases hk with rfl | rfl | rfl | rfl | rfl | rfl
  · exact path_crate
  · exact path_impl
  · exact path_timpl
  · exact path_tdef
  · exact path_nested
  · exact path_gen
theorem plain_part {kd : Int} (h : 7 ≤ kd ∧ kd ≤ 14) : PartC 37 kd := by
  have hk : kd = 7 ∨ kd = 8 ∨ kd = 9 ∨ kd = 10 ∨ kd = 11 ∨ kd = 12 ∨ kd = 13 ∨ kd = 14 := by omega
  rcases hk with rfl | rfl | rfl | rfl | rfl | rfl | rfl | rfl
  · exact plain_basic
  · exact plain_arr
  · exact plain_slice
  · exact plain_tuple
  · exact plain_ref
  · exact plain_mut
  · exact plain_cptr
  · exact plain_mptr
theorem other_part {kd : Int} (h : 15 ≤ kd ∧ kd ≤ 21) : PartC 38 kd := by
  have hk : kd = 15 ∨ kd = 16 ∨ kd = 17 ∨ kd = 18 ∨ kd = 19 ∨ kd = 20 ∨ kd = 21 := by omega
  rcases hk with rfl | rfl | rfl | rfl | rfl | rfl | rfl
  · exact other_fn
  · exact other_dyn
  · exact other_bound
  · exact other_binding
  · exact other_life
  · exact other_numb
  · exact other_hole21

theorem LkP.up {Q : Prop} {n left B b : Nat} {w0 w : World} {e : Ending} {w' : World} (h : LkP Q n left B b w e w') {Q' : Prop} {n' : Nat} (hq : Q → Q') (hn : n' = 1 + n) (k : KeptM ML B w0 w) : LkP Q' n' (left + 1) B b w0 e w' := by
  obtain ⟨bl, l, h1, h2, h3, h4⟩ := h
  exact ⟨bl, l, h1, fun hb => ⟨hq (h2 hb).1, by have := (h2 hb).2; omega, by have := (h2 hb).2; omega⟩, h3, k.trans h4⟩

set_option maxHeartbeats 4000000 in
set_option maxRecDepth 100000 in
theorem piece_all : ∀ (s : Nat) (t : RT), size t ≤ s → PieceC t := by
  intro s
  induction s with
  | zero => intro t h; have := size_pos t; omega
  | succ s ih =>
    intro t hs M B b want deep bound left w kd c nm n fl kv hM hT ht hB hw hl h1 h2 h3 h4
    generalize hv : rv kd c nm n fl kv = v at hT
    cases hT with
    | mk kd' c' nm' n' fl' a m cap V ks hn hk hc hnm hV hTr =>
      have hP : ∀ x ∈ ks, PieceC x := fun x hx => ih x (by have := size_mem hx; rw [size] at hs; omega)
      have hv0 := congrArg (fun x => x[0]?) hv
      have hv1 := congrArg (fun x => x[1]?) hv
      have hv2 := congrArg (fun x => x[2]?) hv
      have hv3 := congrArg (fun x => x[3]?) hv
      have hv4 := congrArg (fun x => x[4]?) hv
      have hv5 := congrArg (fun x => x[5]?) hv
      simp at hv0 hv1 hv2 hv3 hv4 hv5
      subst hv0; subst hv4; subst hv5
      obtain rfl : n = n' := by omega
      obtain rfl : c = c' := UInt8.toNat_inj.1 (by omega)
      obtain rfl : nm = nm' := bs_inj hv2
      clear hv hv1 hv2 hv3
      have hlt := hl.lt
      have hne : b ≠ w.heap.size := by omega
      have hne2 : w.heap.size ≠ b := by omega
      clear hlt
      have HF := Lib.hid (fun w => fits_any kd want h2 w)
      have HIP := Lib.hid (fun w => isPath_any kd w)
      have hl0 := hl.alloc (.cells (rv kd c nm n fl (.slice a m cap)) tRu)
      have k0 := (KeptM.refl (M := ML) (B := B) w).alloc (.cells (rv kd c nm n fl (.slice a m cap)) tRu)
      have c0 := hl0.cell
      have g0 := hl0.fz
      cases left with
      | zero =>
        have HL := Lib.hid (hl0.set (-1))
        have HK := Lib.hid (hl0.keeps hB k0 (.int .i64 (-1)))
        clear hl hl0 k0 hV hTr hP ht ih hs hk
        go_enter Tryz.func26, Tryz.ntmps26
        go_wp2
        go_ret
        exact LkP.no HL.out HK.out
      | succ l =>
        have H1 := hl0.set (l : Int)
        have K1 := hl0.keeps hB k0 (.int .i64 (l : Int))
        have hsz : ((w.alloc (.cells (rv kd c nm n fl (.slice a m cap)) tRu)).setCell ⟨b, 0, none⟩ (.int .i64 (l : Int))).heap.size = w.heap.size + 1 := by simp [World.setCell]
        have same : ∀ k, k < B → ((w.alloc (.cells (rv kd c nm n fl (.slice a m cap)) tRu)).setCell ⟨b, 0, none⟩ (.int .i64 (l : Int))).heap[k]? = w.heap[k]? := K1.same hw
        have HL := Lib.hid H1
        have HK := Lib.hid K1
        cases deep with
        | zero =>
          clear hl hl0 k0 hV hTr hP ht ih hs hk H1 K1 same hsz
          go_enter Tryz.func26, Tryz.ntmps26
          go_wp2
          go_ret
          exact LkP.no HL.out HK.out
        | succ d =>
          cases hfit : decide (fitsK kd want) with
          | false =>
            clear hl hl0 k0 hV hTr hP ht ih hs hk H1 K1 same hsz
            go_enter Tryz.func26, Tryz.ntmps26
            go_wp2_with (go_at_call 34; refine (HF.out _).mono ?_; rintro e w1 ⟨rfl, rfl⟩; rw [hfit])
            go_ret
            exact LkP.no HL.out HK.out
          | true =>
            have hf := of_decide_eq_true hfit
            have HFT := Lib.hid hf
            have hrange : isPathK kd ∨ (7 ≤ kd ∧ kd ≤ 14) ∨ (15 ≤ kd ∧ kd ≤ 21) := by
              have hwant : want = 0 ∨ want = 1 ∨ want = 2 ∨ want = 3 ∨ want = 4 ∨ want = 5 := by omega
              rcases hwant with rfl | rfl | rfl | rfl | rfl | rfl <;> simp [fitsK, isPathK, isTypeK, isArgK, isConstK] at hf ⊢ <;> omega
            have CALL : ∀ f, PartC f kd → Calls Tryz.prog f #[.pointer (some ⟨b, 0, none⟩), .agg (rv kd c nm n fl (.slice a m cap)), .int .i64 d, .int .i64 bound]
                ((w.alloc (.cells (rv kd c nm n fl (.slice a m cap)) tRu)).setCell ⟨b, 0, none⟩ (.int .i64 (l : Int))) (LkP (Rt bound (.mk kd c nm n fl ks)) (sizes ks) l B b ((w.alloc (.cells (rv kd c nm n fl (.slice a m cap)) tRu)).setCell ⟨b, 0, none⟩ (.int .i64 (l : Int)))) :=
              fun f hf => hf M B b d bound l _ c nm n fl a m cap V ks hk hc hn (by omega) (hV.mono (Nat.le_refl _) same) (fun i hi => (hTr i hi).mono (Nat.le_refl _) same) hP hM (by omega) (ht.same same) hB (by omega) H1 (by omega) (by omega) h4
            have UP : ∀ e w', LkP (Rt bound (.mk kd c nm n fl ks)) (sizes ks) l B b ((w.alloc (.cells (rv kd c nm n fl (.slice a m cap)) tRu)).setCell ⟨b, 0, none⟩ (.int .i64 (l : Int))) e w' → LkP (Rt bound (.mk kd c nm n fl ks) ∧ fitsK kd want) (size (.mk kd c nm n fl ks)) (l + 1) B b w e w' :=
              fun _ _ h => h.up (fun hq => ⟨hq, HFT.out⟩) (by rw [size]) HK.out
            have HU := Lib.hid UP
            rcases hrange with hp | hp | hp
            · have e1 : (decide (1 ≤ kd) && decide (kd ≤ 6)) = true := by unfold isPathK at hp; simp [hp]
              have HC := Lib.hid (CALL _ (path_part hp))
              clear CALL UP hl hl0 k0 hV hTr hP ht ih hs hk H1 K1 same hsz hf hp
              go_enter Tryz.func26, Tryz.ntmps26
              go_wp2_with (first
                | (go_at_call 34; refine (HF.out _).mono ?_; rintro e w1 ⟨rfl, rfl⟩; rw [hfit])
                | (go_at_call 35; refine (HIP.out _).mono ?_; rintro e w1 ⟨rfl, rfl⟩; rw [e1]))
              refine HC.out.mono ?_
              rintro e w2 h
              have hu := HU.out _ _ h
              obtain ⟨bl, q, rfl, hb, hl1, kk⟩ := h
              have HUU := Lib.hid hu
              clear hu hb hl1 kk
              go_wp2_with fail
              go_ret
              exact HUU.out
            · have e1 : (decide (1 ≤ kd) && decide (kd ≤ 6)) = false := by simp; omega
              have e2 : decide (kd ≤ 14) = true := by simp; omega
              have HC := Lib.hid (CALL _ (plain_part hp))
              clear CALL UP hl hl0 k0 hV hTr hP ht ih hs hk H1 K1 same hsz hf hp
              go_enter Tryz.func26, Tryz.ntmps26
              go_wp2_with (first
                | (go_at_call 34; refine (HF.out _).mono ?_; rintro e w1 ⟨rfl, rfl⟩; rw [hfit])
                | (go_at_call 35; refine (HIP.out _).mono ?_; rintro e w1 ⟨rfl, rfl⟩; rw [e1]))
              refine HC.out.mono ?_
              rintro e w2 h
              have hu := HU.out _ _ h
              obtain ⟨bl, q, rfl, hb, hl1, kk⟩ := h
              have HUU := Lib.hid hu
              clear hu hb hl1 kk
              go_wp2_with fail
              go_ret
              exact HUU.out
            · have e1 : (decide (1 ≤ kd) && decide (kd ≤ 6)) = false := by simp; omega
              have e2 : decide (kd ≤ 14) = false := by simp; omega
              have HC := Lib.hid (CALL _ (other_part hp))
              clear CALL UP hl hl0 k0 hV hTr hP ht ih hs hk H1 K1 same hsz hf hp
              go_enter Tryz.func26, Tryz.ntmps26
              go_wp2_with (first
                | (go_at_call 34; refine (HF.out _).mono ?_; rintro e w1 ⟨rfl, rfl⟩; rw [hfit])
                | (go_at_call 35; refine (HIP.out _).mono ?_; rintro e w1 ⟨rfl, rfl⟩; rw [e1]))
              refine HC.out.mono ?_
              rintro e w2 h
              have hu := HU.out _ _ h
              obtain ⟨bl, q, rfl, hb, hl1, kk⟩ := h
              have HUU := Lib.hid hu
              clear hu hb hl1 kk
              go_wp2_with fail
              go_ret
              exact HUU.out
end Go.Proofs.YtidokamjbglkbaaGreatDoor

/- RustRight. -/
namespace Go.Proofs.YtidokamjbglkbaaGreatDoor
open Go.RowKit

theorem Tabs.raiseP {B B' : Nat} {w : World} (h : Tabs B w) (hB : B ≤ B') : Tabs B' w := by
  obtain ⟨W, h1, h2, h3⟩ := h; exact ⟨W, h1, by omega, h3⟩

set_option maxHeartbeats 2000000 in
set_option maxRecDepth 100000 in
theorem right_path (M B : Nat) (t : RT) (kd : Int) (c : UInt8) (nm : List UInt8) (n : Nat) (fl : Bool) (kv : Value) (w : World) (hM : M ≤ 2147483647) (hT : TreeAt M B w (rv kd c nm n fl kv) t) (ht : Tabs B w) (hB : B ≤ w.heap.size) :
    Calls Tryz.prog 24 #[.agg (rv kd c nm n fl kv)] w fun e w' => ∃ bl : Bool, e = .returned (.bool bl) ∧ (bl = true → Rt 0 t ∧ isPathK t.kd ∧ size t ≤ 300) ∧ Below w.heap.size w w' := by
  have b1 : Below w.heap.size w (w.alloc (.cells (rv kd c nm n fl kv) tRu)) := (Below.refl w.heap.size w).alloc (Nat.le_refl _) _
  have b2 := b1.alloc (by simp) (.cells #[.int .i64 300] tL)
  have hl : Lk (w.heap.size + 1) (300 : Nat) ((w.alloc (.cells (rv kd c nm n fl kv) tRu)).alloc (.cells #[.int .i64 300] tL)) := by
    have := heap_alloc_new (w.alloc (.cells (rv kd c nm n fl kv) tRu)) (.cells #[.int .i64 300] tL)
    simpa [Lk] using this
  have same : ∀ k, k < B → ((w.alloc (.cells (rv kd c nm n fl kv) tRu)).alloc (.cells #[.int .i64 300] tL)).heap[k]? = w.heap[k]? := fun k hk => b2.block k (by omega)
  have HL := Lib.hid (piece_all _ t (Nat.le_refl _) M (w.heap.size + 1) (w.heap.size + 1) 0 24 0 300 _ kd c nm n fl kv hM ((hT.mono (Nat.le_refl _) same).mono (by omega) (fun _ _ => rfl)) ((ht.same same).raiseP (by omega)) (by omega) (by simp) hl (by omega) (by omega) (by omega) (by omega))
  have HB := Lib.hid b2
  clear hl hT ht b1 b2 same
  go_enter Tryz.func24, Tryz.ntmps24
  go_wp2_with fail
  refine HL.out.mono ?_
  rintro e w1 ⟨bl, l, rfl, hb, _, k⟩
  have b3 : Below w.heap.size w w1 := HB.out.trans ((k.below (by simp)).mono (by simp))
  clear k HL
  go_wp2
  go_ret
  exact ⟨bl, rfl, fun h => ⟨(hb h).1.1, by simpa [fitsK] using (hb h).1.2, (hb h).2.1⟩, b3⟩
end Go.Proofs.YtidokamjbglkbaaGreatDoor

/- advance, the builder's methods in a reader, writeByte, writeString. -/
namespace Go.Proofs.YtidokamjbglkbaaGreatDoor
open Go.RowKit

theorem advance_any (B b n : Nat) (r : RS) (w : World) (h : Rst B b r w) (hn : n ≤ r.str.length) :
    Calls Tryz.prog 83 #[.pointer (some ⟨b, 0, none⟩), .int .i64 n] w fun e w' =>
      e = .returned (.tuple #[]) ∧ Rst B b { r with str := r.str.drop n, off := r.off + n } w' ∧ Kept B w w' := by
  obtain ⟨ad, buf, h⟩ := h.open
  have c1 := h.c1
  have c2 := h.c2
  have g1 := h.fz 1
  have g2 := h.fz 2
  have hl := h.len
  go_enter Tryz.func83, Tryz.ntmps83
  go_wp2
  go_end0
  have k := h.setStr (r.str.drop n) (by simp; omega)
  exact ⟨rfl, (k.setOff (r.off + n) (by simp) (by simp; omega)).rst, k.keeps (h.keeps (Kept.refl B w) _ _) _ _⟩

set_option maxHeartbeats 1000000 in
set_option maxRecDepth 100000 in
/-- The builder that lies in a reader: copyCheck. -/
theorem check_used (b : Nat) (w : World) (h0 : w.cell? ⟨b, 3, none⟩ = some (.pointer (some ⟨b, 3, none⟩))) :
    Calls Tryz.prog 92 #[.pointer (some ⟨b, 3, none⟩)] w fun e w' => e = .returned (.tuple #[]) ∧ w = w' := by
  have hj : (Tryz.prog.info? 85).isSome = true := by kernel_rfl
  obtain ⟨j, hj⟩ := Option.isSome_iff_exists.1 hj
  go_enter Tryz.func92, Tryz.ntmps92
  go_wp2
  rw [Lib.run_neq_ptr_same w _ (by kernel_rfl) hj]
  go_wp2
  go_end0
  exact ⟨rfl, rfl⟩

set_option maxHeartbeats 1000000 in
set_option maxRecDepth 100000 in
theorem check_fresh (b : Nat) (cs : Array Value) (w : World) (hb : w.heap[b]? = some (.cells cs tR (0, 0))) (h0 : w.cell? ⟨b, 3, none⟩ = some (.pointer none)) (hsz : cs.size = 10) :
    Calls Tryz.prog 92 #[.pointer (some ⟨b, 3, none⟩)] w fun e w' => e = .returned (.tuple #[]) ∧ w.setCell ⟨b, 3, none⟩ (.pointer (some ⟨b, 3, none⟩)) = w' := by
  have hj : (Tryz.prog.info? 85).map (fun i => i.size) = some 2 := by kernel_rfl
  obtain ⟨j, hj, hjs⟩ := Option.map_eq_some_iff.1 hj
  have hsh : w.shape? (⟨b, 3, none⟩ : Addr).block = some (tR, 10) := by simp [World.shape?, hb, hsz]
  have hfz : w.frozen? ⟨b, 3, none⟩ = false := Lib.frozen_of_heap hb 3
  go_enter Tryz.func92, Tryz.ntmps92
  go_wp2
  rw [Lib.run_to_unsafe w ⟨b, 3, none⟩ (by kernel_rfl) (by kernel_rfl) hj (by rw [hjs]; decide) hsh (by show 3 < 10; decide)]
  simp only [Result.andThen]
  rw [Oper.upon_value]
  go_wp2
  rw [run_callFunc_extern Tryz.func113 (by kernel_rfl) (by kernel_rfl) (by kernel_rfl) (e := Extern.AbiNoEscape.same) (by kernel_rfl)]
  rw [Lib.run_noEscape]
  simp only [Result.andThen]
  rw [Oper.upon_value]
  go_wp2
  rw [Lib.run_from_unsafe w ⟨b, 3, none⟩ (by kernel_rfl) (by kernel_rfl) hj hsh (by kernel_rfl)]
  simp only [Result.andThen]
  rw [Oper.upon_value]
  go_wp2
  go_end0
  exact ⟨rfl, rfl⟩

theorem infoB : (Tryz.prog.info? tB).map (fun i => (i.zero, i.size, i.bytes)) = some (some (.int .u8 0), 1, 1) := by kernel_rfl

theorem check_any (B b : Nat) (r : RS) (ad buf : Value) (w : World) (h : RstV B b r ad buf w) :
    Calls Tryz.prog 92 #[.pointer (some ⟨b, 3, none⟩)] w fun e w' => e = .returned (.tuple #[]) ∧ RstV B b r (.pointer (some ⟨b, 3, none⟩)) buf w' ∧ Kept B w w' := by
  rcases h.addr with ⟨rfl, ho⟩ | rfl
  · refine (check_fresh b _ w h.heap h.c3 rfl).mono ?_
    rintro e w' ⟨rfl, rfl⟩
    refine ⟨rfl, ?_, h.keeps (Kept.refl B w) _ _⟩
    refine ⟨h.hB, by simpa [World.setCell] using h.hw, h.len, h.tab.same (fun k hk => Below.heap_setCell _ _ _ _ (by have := h.hB; simp; omega)), by rw [setCell_heap h.heap]; rfl, .inr rfl, ?_⟩
    refine h.own.kept (row := some b) ⟨rfl, rfl, rfl, by simp [World.setCell], fun k _ hk => Below.heap_setCell _ _ _ _ (fun e => hk (by simp [e]))⟩ ?_
    exact .inr (Lib.ownBlock_ne h.own h.heap (by decide))
  · refine (check_used b w h.c3).mono ?_
    rintro e w' ⟨rfl, rfl⟩
    exact ⟨rfl, h, Kept.refl B _⟩

theorem strCells_bv (s : ByteArray) : Lib.strCells s = bv s.data.toList := by simp [Lib.strCells, bv]

theorem row_kind {w : World} {B : Nat} {v : Value} {n : Nat} {xs : List Value} (h : w.ownsRow B tB 1 v n xs) : ∀ k, v.ownBlock = some k → B ≤ k ∧ kindOf w.heap[k]? = some tB := by
  intro k hk
  refine ⟨(h.lt k hk).1, ?_⟩
  rcases h.2 with ⟨rfl, _⟩ | ⟨g, cap, cur, rfl, _, hg, _⟩
  · simp [Value.ownBlock] at hk
  · simp only [Value.ownBlock, Option.some.injEq] at hk
    subst hk
    rw [hg]; rfl


section
variable {B b : Nat} {r : RS} {ad buf : Value} {w : World}
/-- A new buffer laid into the reader. -/
theorem RstV.setBuf (h : RstV B b r ad buf w) (hne : ad = .pointer (some ⟨b, 3, none⟩)) {w' : World} {buf' : Value} {l : List UInt8} (hg : w.grownBy w' buf.ownBlock)
    (hown : w'.ownsRow B tB 1 buf' l.length (bv l)) : RstV B b { r with out := l } ad buf' (w'.setCell ⟨b, 4, none⟩ buf') := by
  have hlt := h.rst.lt
  have hne' : buf.ownBlock ≠ some b := Lib.ownBlock_ne h.own h.heap (by decide)
  have hb : w'.heap[b]? = some (.cells (r.cs ad buf) tR (0, 0)) := by
    rw [hg.block b hlt (fun e => hne' e.symm)]; exact h.heap
  refine ⟨h.hB, by have := hg.size; have := h.hw; simp [World.setCell]; omega, h.len, h.tab.same (fun k hk => ?_), by rw [setCell_heap hb]; rfl, .inr hne, ?_⟩
  · rw [Below.heap_setCell _ _ _ _ (by have := h.hB; simp; omega)]
    exact hg.block k (by have := h.hw; omega) (fun e => by have := (row_kind h.own k e.symm).1; omega)
  refine hown.kept (row := some b) ⟨rfl, rfl, rfl, by simp [World.setCell], fun k _ hk => Below.heap_setCell _ _ _ _ (fun e => hk (by simp [e]))⟩ ?_
  exact .inr (Lib.ownBlock_ne hown hb (by decide))

theorem RstV.keptGrown {a : World} (h : RstV B b r ad buf w) (k : Kept B a w) {w' : World} (hg : w.grownBy w' buf.ownBlock) : Kept B a w' :=
  k.grown hg fun j hj => row_kind h.own j hj

end

set_option maxHeartbeats 2000000 in
set_option maxRecDepth 100000 in
theorem bWriteString (B b : Nat) (r : RS) (s : ByteArray) (w : World) (h : Rst B b r w) (hl : r.out.length + s.size ≤ 140737488355328) :
    Calls Tryz.prog 76 #[.pointer (some ⟨b, 3, none⟩), .string s] w fun e w' => e = .returned (.tuple #[.int .i64 s.size, .nilIface]) ∧
      Rst B b { r with out := r.out ++ s.data.toList } w' ∧ Kept B w w' := by
  obtain ⟨ad, buf, h⟩ := h.open
  obtain ⟨i0, hi, hz0, hz1, hz2⟩ := info_parts infoB
  go_enter Tryz.func76, Tryz.ntmps76
  go_wp2_with (go_at_call 92; refine (check_any B b r ad buf _ h).mono ?_)
  rintro e w1 ⟨rfl, h1, hk1⟩
  have c4 := h1.c4
  have hown := h1.own
  go_wp2_with (at_builtin; refine Lib.wpList_append_own_string _ rfl _ _ 39 9 rfl B tB i0 Tryz.underlying39 Tryz.underlying9 hi hz0 hz1 hz2 _ _ _ rfl hown s rfl ?c3 ?c4 ?c5 ?_)
  case c3 => unfold maxLen; omega
  case c4 => omega
  case c5 => exact h1.hw
  intro v' w2 hown' hgrow _
  have hown2 : w2.ownsRow B tB 1 v' (r.out ++ s.data.toList).length (bv (r.out ++ s.data.toList)) := by
    rw [strCells_bv] at hown'
    have e1 : (r.out ++ s.data.toList).length = r.out.length + s.size := by simp
    rw [e1]; simpa [bv] using hown'
  have hne' : buf.ownBlock ≠ some b := Lib.ownBlock_ne h1.own h1.heap (by decide)
  have hb2 : w2.heap[b]? = some (.cells (r.cs (.pointer (some ⟨b, 3, none⟩)) buf) tR (0, 0)) := by
    rw [hgrow.block b h1.rst.lt (fun e => hne' e.symm)]; exact h1.heap
  have d4 : w2.cell? ⟨b, 4, none⟩ = some buf := by rw [cellAt hb2]; rfl
  have g4 : w2.frozen? ⟨b, 4, none⟩ = false := Lib.frozen_of_heap hb2 4
  have R := (h1.setBuf rfl hgrow hown2).rst
  have K2 : Kept B w (w2.setCell ⟨b, 4, none⟩ v') :=
    (h1.keptGrown hk1 hgrow).setCell (p := ⟨b, 4, none⟩) (.inr ⟨h1.hB, by rw [hb2, kindOf]⟩) _
  obtain ⟨ao, n', cap, rfl⟩ : ∃ ao n' cap, v' = .slice ao n' cap := by
    rcases hown'.2 with ⟨hv, _⟩ | ⟨g, cap, cur, hv, _⟩
    · exact ⟨_, _, _, hv⟩
    · exact ⟨_, _, _, hv⟩
  clear hown' hown2 hgrow hown hb2
  go_wp2
  go_ret2
  exact ⟨rfl, R, K2⟩

set_option maxHeartbeats 2000000 in
set_option maxRecDepth 100000 in
theorem bWriteByte (B b : Nat) (r : RS) (c : UInt8) (w : World) (h : Rst B b r w) (hl : r.out.length + 1 ≤ 140737488355328) :
    Calls Tryz.prog 77 #[.pointer (some ⟨b, 3, none⟩), .int .u8 c.toNat] w fun e w' => e = .returned .nilIface ∧
      Rst B b { r with out := r.out ++ [c] } w' ∧ Kept B w w' := by
  obtain ⟨ad, buf, h⟩ := h.open
  obtain ⟨i0, hi, hz0, hz1, hz2⟩ := info_parts infoB
  go_enter Tryz.func77, Tryz.ntmps77
  go_wp2_with (go_at_call 92; refine (check_any B b r ad buf _ h).mono ?_)
  rintro e w1 ⟨rfl, h1, hk1⟩
  have c4 := h1.c4
  have hown := h1.own
  go_wp2_with (at_builtin; refine wpList_append_own _ rfl _ _ 39 rfl B tB i0 (.int .u8 0) 1 1 Tryz.underlying39 hi hz0 hz1 hz2 rfl (by decide) _ _ _ rfl (hown.alloc _) ⟨w1.heap.size, 0, none⟩ 1 1 [.int .u8 c.toNat] rfl rfl ?c1 ?c2 ?c3 ?c4 ?c5 ?_)
  case c1 =>
    intro j u hj
    match j, hj with
    | 0, hj => simp at hj; subst hj; simp [Addr.add]
  case c2 => intro u hu; simp at hu; subst hu; rfl
  case c3 => unfold maxLen; omega
  case c4 => omega
  case c5 => have := h1.hw; simp; omega
  intro v' w2 hown' hgrow _
  have h1a := h1.alloc (.cells #[.int .u8 c.toNat] tB)
  have hown2 : w2.ownsRow B tB 1 v' (r.out ++ [c]).length (bv (r.out ++ [c])) := by
    have e1 : (r.out ++ [c]).length = r.out.length + 1 := by simp
    rw [e1]; simpa [bv] using hown'
  have hne' : buf.ownBlock ≠ some b := Lib.ownBlock_ne h1.own h1.heap (by decide)
  have hb2 : w2.heap[b]? = some (.cells (r.cs (.pointer (some ⟨b, 3, none⟩)) buf) tR (0, 0)) := by
    rw [hgrow.block b h1a.rst.lt (fun e => hne' e.symm)]; exact h1a.heap
  have d4 : w2.cell? ⟨b, 4, none⟩ = some buf := by rw [cellAt hb2]; rfl
  have g4 : w2.frozen? ⟨b, 4, none⟩ = false := Lib.frozen_of_heap hb2 4
  have R := (h1a.setBuf rfl hgrow hown2).rst
  have K2 : Kept B w (w2.setCell ⟨b, 4, none⟩ v') :=
    (h1a.keptGrown (hk1.alloc _) hgrow).setCell (p := ⟨b, 4, none⟩) (.inr ⟨h1.hB, by rw [hb2, kindOf]⟩) _
  obtain ⟨g, cap, rfl⟩ : ∃ g cap, v' = .slice (some ⟨g, 0, none⟩) (r.out.length + 1) cap := by
    rcases hown'.2 with ⟨_, h0⟩ | ⟨g, cap, cur, hv, _⟩
    · omega
    · exact ⟨g, cap, hv⟩
  clear hown' hown2 hgrow hown hb2 h1a
  go_wp2
  go_ret
  exact ⟨rfl, R, K2⟩
end Go.Proofs.YtidokamjbglkbaaGreatDoor

