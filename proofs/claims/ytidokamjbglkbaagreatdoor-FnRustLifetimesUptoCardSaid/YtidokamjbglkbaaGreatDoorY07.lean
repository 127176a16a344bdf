/- The look at crates, generics, basic types, tuples. -/
import Derived.Test.YtidokamjbglkbaaGreatDoorY05
import Derived.Test.YtidokamjbglkbaaGreatDoorY06
import Derived.Test.YtidokamjbglkbaaGreatDoorY04
namespace Go.Proofs.YtidokamjbglkbaaGreatDoor
open Go.RowKit

set_option maxHeartbeats 4000000 in
set_option maxRecDepth 100000 in
theorem path_crate (M B b deep bound left : Nat) (w : World) (c : UInt8) (nm : List UInt8) (n : Nat) (fl : Bool) (a : Option Addr) (m cap : Nat) (V : Nat → Array Value) (ks : List RT) (hk : ks.length = m) (hcap : m ≤ cap ∧ cap ≤ maxLen) (hn0 : n < 18446744073709551616) (hnm : nm.length ≤ 2147483647) (hV : KidsIn B w a m V) (hT : ∀ i (h : i < ks.length), TreeAt M B w (V i) ks[i]) (hP : ∀ x ∈ ks, PieceC x)
    (_ : M ≤ 2147483647) (hm : m ≤ M) (ht : Tabs B w) (_ : B ≤ b) (hw : B ≤ w.heap.size) (hl : Lk b left w) (_ : left ≤ 300) (_ : deep ≤ 24) (_ : bound ≤ 20) :
    Calls Tryz.prog 36 #[.pointer (some ⟨b, 0, none⟩), .agg (rv 1 c nm n fl (.slice a m cap)), .int .i64 deep, .int .i64 bound] w (LkP (Rt bound (.mk 1 c nm n fl ks)) (sizes ks) left B b w) := by
  have S := LkX.start (M := M) (B := B) (b := b) (rv 1 c nm n fl (.slice a m cap)) hl ht hw
  by_cases hN : n < 4611686018427387904
  · have hN' : decide ((4611686018427387904 : Int) ≤ (n : Int)) = false := by simp; omega
    by_cases hm1 : m = 0
    · subst hm1
      match ks, hk with
      | [], _ =>
      have HNM := Lib.hid (fun w' (l : Int) (h : LkX M B b (rv 1 c nm n fl (.slice a 0 cap)) w l w') => name_any nm hnm B w' h.base.tabs)
      have HS := Lib.hid S
      clear S hl hV hT ht hP hm
      go_enter Tryz.func36, Tryz.ntmps36
      go_wp2_with fail
      refine (HNM.out _ _ HS.out).mono ?_
      rintro e w1 ⟨rfl, b1⟩
      have S1 := Lib.hid (HS.out.below b1)
      clear b1
      cases hb : nameB nm with
      | false =>
        go_wp2
        go_ret
        exact LkP.no' S1.out
      | true =>
        have HB := Lib.hid hb
        clear hb
        go_wp2
        go_ret
        exact LkP.yes (Rt.crate _ _ _ _ _ hN HB.out) (Nat.zero_le _) (by simpa [sizes] using S1.out.base.look) S1.out.base.kept
    · have hm' : ((m : Int) == 0) = false := by rw [beq_eq_false_iff_ne]; omega
      have HS := Lib.hid S
      clear S hl hV hT ht hP hk
      go_enter Tryz.func36, Tryz.ntmps36
      go_wp2
      go_ret
      exact LkP.no' HS.out
  · have hN' : decide ((4611686018427387904 : Int) ≤ (n : Int)) = true := by simp; omega
    have HS := Lib.hid S
    clear S hl hV hT ht hP hk
    go_enter Tryz.func36, Tryz.ntmps36
    go_wp2
    go_ret
    exact LkP.no' HS.out

set_option maxHeartbeats 4000000 in
set_option maxRecDepth 100000 in
theorem path_gen (M B b deep bound left : Nat) (w : World) (c : UInt8) (nm : List UInt8) (n : Nat) (fl : Bool) (a : Option Addr) (m cap : Nat) (V : Nat → Array Value) (ks : List RT) (hk : ks.length = m) (hcap : m ≤ cap ∧ cap ≤ maxLen) (hn0 : n < 18446744073709551616) (_ : nm.length ≤ 2147483647) (hV : KidsIn B w a m V) (hT : ∀ i (h : i < ks.length), TreeAt M B w (V i) ks[i]) (hP : ∀ x ∈ ks, PieceC x)
    (hM : M ≤ 2147483647) (hm : m ≤ M) (ht : Tabs B w) (hB : B ≤ b) (hw : B ≤ w.heap.size) (hl : Lk b left w) (h1 : left ≤ 300) (h3 : deep ≤ 24) (h4 : bound ≤ 20) :
    Calls Tryz.prog 36 #[.pointer (some ⟨b, 0, none⟩), .agg (rv 6 c nm n fl (.slice a m cap)), .int .i64 deep, .int .i64 bound] w (LkP (Rt bound (.mk 6 c nm n fl ks)) (sizes ks) left B b w) := by
  have S := LkX.start (M := M) (B := B) (b := b) (rv 6 c nm n fl (.slice a m cap)) hl ht hw
  by_cases hN : n < 4611686018427387904
  · have hN' : decide ((4611686018427387904 : Int) ≤ (n : Int)) = false := by simp; omega
    by_cases hm1 : 2 ≤ m
    · have hm' : decide ((2 : Int) ≤ (m : Int)) = true := by simp; omega
      match ks, hk with
      | [], hk => simp at hk; omega
      | p0 :: gs, hk =>
      obtain ⟨kb, off, kd0, c0, nm0, n0, fl0, ka0, km0, kc0, rfl, K0⟩ := kid_of hk hV hT 0 (by simp)
      change KidW M B p0 _ _ _ _ _ _ _ _ w at K0
      have HC0 := Lib.hid (fun w' (l : Nat) (h : LkX M B b (rv 6 c nm n fl (.slice (some ⟨kb, off, none⟩) m cap)) w l w') => K0.call hw (hP p0 (by simp)) hM hB (show 0 ≤ 5 by decide) h3 (show bound ≤ 20 by omega) w' l h)
      have HA := Lib.hid (fun w' (l : Nat) (h : LkX M B b (rv 6 c nm n fl (.slice (some ⟨kb, off, none⟩) m cap)) w l w') => all_call (want := 2) (deep := deep) (bound := bound) (cap - 1) (show gs.length = m - 1 by simp at hk; omega) (kids_tail hV (by omega)) (trees_tail hT) (fun x hx => hP x (by simp [hx])) hM (by omega) hB hw (by decide) h3 h4 w' l h)
      have HK0 := Lib.hid (fun w' (l : Int) (h : LkX M B b (rv 6 c nm n fl (.slice (some ⟨kb, off, none⟩) m cap)) w l w') => K0.cells hw h)
      obtain ⟨k00, k01, k02, k03, k04, k05⟩ := HK0.out _ _ S
      simp only [Nat.zero_mul, Nat.add_zero] at k00 k01 k02 k03 k04 k05
      have HS := Lib.hid S
      have HKS := Lib.hid (show gs ≠ [] by intro e; subst e; simp at hk; omega)
      clear S hl hV hT ht hP K0 hm hk
      go_enter Tryz.func36, Tryz.ntmps36
      go_wp2_with fail
      refine (HC0.out _ left HS.out (by omega)).mono ?_
      rintro e w1 h
      obtain ⟨bl, l, rfl, hb, hl1, kk⟩ := h
      cases bl with
      | false =>
        clear hb
        have S1 := HS.out.step kk hl1
        clear kk
        go_wp2
        go_ret
        exact LkP.no' S1
      | true =>
        obtain ⟨hq0, hs0, rfl⟩ := hb rfl
        have S1 := (HS.out.step kk hl1).cast (show _ = ((left - size p0 : Nat) : Int) by omega)
        have HQ0 := Lib.hid hq0
        clear kk hl1 hb hq0
        obtain ⟨_, _, _, _, _, b5⟩ := S1.cells
        have HS1 := Lib.hid S1
        clear S1
        go_wp2_with fail
        refine (HA.out _ (left - size p0) HS1.out (by omega)).mono ?_
        rintro e w2 h
        have hf := LkP.fin (Q := Rt bound (.mk 6 c nm n fl (p0 :: gs))) (n := sizes (p0 :: gs)) (left := left) h (fun hq => ⟨Rt.gen _ _ _ _ _ _ _ hN HKS.out HQ0.out.1 (by simpa [fitsK] using HQ0.out.2) (fun x hx => (hq x hx).1) (fun x hx => by simpa [fitsK] using (hq x hx).2), by simp only [sizes]; omega, by omega⟩) HS1.out.base.kept
        obtain ⟨bl, l, rfl, hb, hl1, kk⟩ := h
        have HF := Lib.hid hf
        clear hf hb kk hl1
        go_wp2
        go_ret
        exact HF.out
    · have hm' : decide ((2 : Int) ≤ (m : Int)) = false := by simp; omega
      have HS := Lib.hid S
      clear S hl hV hT ht hP hk
      go_enter Tryz.func36, Tryz.ntmps36
      go_wp2
      go_ret
      exact LkP.no' HS.out
  · have hN' : decide ((4611686018427387904 : Int) ≤ (n : Int)) = true := by simp; omega
    have HS := Lib.hid S
    clear S hl hV hT ht hP hk
    go_enter Tryz.func36, Tryz.ntmps36
    go_wp2
    go_ret
    exact LkP.no' HS.out

set_option maxHeartbeats 4000000 in
set_option maxRecDepth 100000 in
theorem plain_basic (M B b deep bound left : Nat) (w : World) (c : UInt8) (nm : List UInt8) (n : Nat) (fl : Bool) (a : Option Addr) (m cap : Nat) (V : Nat → Array Value) (ks : List RT) (hk : ks.length = m) (hcap : m ≤ cap ∧ cap ≤ maxLen) (_ : n < 18446744073709551616) (_ : nm.length ≤ 2147483647) (hV : KidsIn B w a m V) (hT : ∀ i (h : i < ks.length), TreeAt M B w (V i) ks[i]) (hP : ∀ x ∈ ks, PieceC x)
    (_ : M ≤ 2147483647) (hm : m ≤ M) (ht : Tabs B w) (_ : B ≤ b) (hw : B ≤ w.heap.size) (hl : Lk b left w) (_ : left ≤ 300) (_ : deep ≤ 24) (_ : bound ≤ 20) :
    Calls Tryz.prog 37 #[.pointer (some ⟨b, 0, none⟩), .agg (rv 7 c nm n fl (.slice a m cap)), .int .i64 deep, .int .i64 bound] w (LkP (Rt bound (.mk 7 c nm n fl ks)) (sizes ks) left B b w) := by
  have S := LkX.start (M := M) (B := B) (b := b) (rv 7 c nm n fl (.slice a m cap)) hl ht hw
  by_cases hm1 : m = 0
  · subst hm1
    match ks, hk with
    | [], _ =>
    have HNM := Lib.hid (fun w' => basicText_any c.toNat w')
    have HS := Lib.hid S
    clear S hl hV hT ht hP hm
    by_cases hb : basicText c.toNat = []
    · rw [hb] at HNM
      have ht0 : (bs []).toList.isEmpty = true := by rw [ByteArray.toList_eq]; rfl
      clear hb
      go_enter Tryz.func37, Tryz.ntmps37
      go_wp2_with (go_at_call 47; refine (HNM.out _).mono ?_; rintro e w1 ⟨rfl, rfl⟩)
      go_ret
      exact LkP.no' HS.out
    · have ht0 : (bs (basicText c.toNat)).toList.isEmpty = false := by
        rw [ByteArray.toList_eq]
        cases h : basicText c.toNat with
        | nil => exact absurd h hb
        | cons x y => rfl
      have HB := Lib.hid hb
      clear hb
      go_enter Tryz.func37, Tryz.ntmps37
      go_wp2_with (go_at_call 47; refine (HNM.out _).mono ?_; rintro e w1 ⟨rfl, rfl⟩)
      go_ret
      exact LkP.yes (Rt.basic _ _ _ _ _ HB.out) (Nat.zero_le _) (by simpa [sizes] using HS.out.base.look) HS.out.base.kept
  · have hm' : ((m : Int) == 0) = false := by rw [beq_eq_false_iff_ne]; omega
    have HS := Lib.hid S
    clear S hl hV hT ht hP hk
    go_enter Tryz.func37, Tryz.ntmps37
    go_wp2
    go_ret
    exact LkP.no' HS.out

set_option maxHeartbeats 4000000 in
set_option maxRecDepth 100000 in
theorem plain_tuple (M B b deep bound left : Nat) (w : World) (c : UInt8) (nm : List UInt8) (n : Nat) (fl : Bool) (a : Option Addr) (m cap : Nat) (V : Nat → Array Value) (ks : List RT) (hk : ks.length = m) (_ : m ≤ cap ∧ cap ≤ maxLen) (_ : n < 18446744073709551616) (_ : nm.length ≤ 2147483647) (hV : KidsIn B w a m V) (hT : ∀ i (h : i < ks.length), TreeAt M B w (V i) ks[i]) (hP : ∀ x ∈ ks, PieceC x)
    (hM : M ≤ 2147483647) (hm : m ≤ M) (ht : Tabs B w) (hB : B ≤ b) (hw : B ≤ w.heap.size) (hl : Lk b left w) (h1 : left ≤ 300) (h3 : deep ≤ 24) (h4 : bound ≤ 20) :
    Calls Tryz.prog 37 #[.pointer (some ⟨b, 0, none⟩), .agg (rv 10 c nm n fl (.slice a m cap)), .int .i64 deep, .int .i64 bound] w (LkP (Rt bound (.mk 10 c nm n fl ks)) (sizes ks) left B b w) := by
  have S := LkX.start (M := M) (B := B) (b := b) (rv 10 c nm n fl (.slice a m cap)) hl ht hw
  have HA := Lib.hid (fun w' (l : Nat) (h : LkX M B b (rv 10 c nm n fl (.slice a m cap)) w l w') => all_call (want := 1) (deep := deep) (bound := bound) cap hk hV hT hP hM hm hB hw (by decide) h3 h4 w' l h)
  have HS := Lib.hid S
  clear S hl hV hT ht hP hm hk
  go_enter Tryz.func37, Tryz.ntmps37
  go_wp2_with fail
  refine (HA.out _ left HS.out (by omega)).mono ?_
  rintro e w1 h
  have hf := LkP.fin (Q := Rt bound (.mk 10 c nm n fl ks)) (n := sizes ks) (left := left) h (fun hq => ⟨Rt.tuple _ _ _ _ _ _ (fun x hx => (hq x hx).1) (fun x hx => by simpa [fitsK] using (hq x hx).2), by omega, by omega⟩) HS.out.base.kept
  obtain ⟨bl, l, rfl, hb, hl1, kk⟩ := h
  have HF := Lib.hid hf
  clear hf hb kk hl1
  go_wp2
  go_ret
  exact HF.out

end Go.Proofs.YtidokamjbglkbaaGreatDoor

/- The look at nested names. -/
namespace Go.Proofs.YtidokamjbglkbaaGreatDoor
open Go.RowKit

set_option maxHeartbeats 8000000 in
set_option maxRecDepth 100000 in
theorem path_nested (M B b deep bound left : Nat) (w : World) (c : UInt8) (nm : List UInt8) (n : Nat) (fl : Bool) (a : Option Addr) (m cap : Nat) (V : Nat → Array Value) (ks : List RT) (hk : ks.length = m) (hcap : m ≤ cap ∧ cap ≤ maxLen) (hn0 : n < 18446744073709551616) (hnm : nm.length ≤ 2147483647) (hV : KidsIn B w a m V) (hT : ∀ i (h : i < ks.length), TreeAt M B w (V i) ks[i]) (hP : ∀ x ∈ ks, PieceC x)
    (hM : M ≤ 2147483647) (hm : m ≤ M) (ht : Tabs B w) (hB : B ≤ b) (hw : B ≤ w.heap.size) (hl : Lk b left w) (h1 : left ≤ 300) (h3 : deep ≤ 24) (h4 : bound ≤ 20) :
    Calls Tryz.prog 36 #[.pointer (some ⟨b, 0, none⟩), .agg (rv 5 c nm n fl (.slice a m cap)), .int .i64 deep, .int .i64 bound] w (LkP (Rt bound (.mk 5 c nm n fl ks)) (sizes ks) left B b w) := by
  have S := LkX.start (M := M) (B := B) (b := b) (rv 5 c nm n fl (.slice a m cap)) hl ht hw
  by_cases hN : n < 4611686018427387904
  · have hN' : decide ((4611686018427387904 : Int) ≤ (n : Int)) = false := by simp; omega
    have hlet : c = 67 ∨ c = 83 ∨ ((((c.toNat : Int) == 67) = false ∧ ((c.toNat : Int) == 83) = false) ∧ ((97 ≤ c.toNat ∧ c.toNat ≤ 122) ∨ c.toNat < 97 ∨ 122 < c.toNat)) := by
      by_cases e1 : c = 67
      · exact .inl e1
      · by_cases e2 : c = 83
        · exact .inr (.inl e2)
        · have n1 : c.toNat ≠ 67 := fun e => e1 (UInt8.toNat_inj.1 e)
          have n2 : c.toNat ≠ 83 := fun e => e2 (UInt8.toNat_inj.1 e)
          exact .inr (.inr ⟨⟨by rw [beq_eq_false_iff_ne]; omega, by rw [beq_eq_false_iff_ne]; omega⟩, by omega⟩)
    have hte : (bs nm).toList.isEmpty = decide (nm = []) := by rw [ByteArray.toList_eq]; cases nm <;> simp
    by_cases hm1 : m = 1
    · subst hm1
      match ks, hk with
      | [p0], _ =>
      obtain ⟨kb, off, kd0, c0, nm0, n0, fl0, ka0, km0, kc0, rfl, K0⟩ := kid_of rfl hV hT 0 (by simp)
      change KidW M B p0 _ _ _ _ _ _ _ _ w at K0
      have HC0 := Lib.hid (fun w' (l : Nat) (h : LkX M B b (rv 5 c nm n fl (.slice (some ⟨kb, off, none⟩) 1 cap)) w l w') => K0.call hw (hP p0 (by simp)) hM hB (show 0 ≤ 5 by decide) h3 (show bound ≤ 20 by omega) w' l h)
      have HK0 := Lib.hid (fun w' (l : Int) (h : LkX M B b (rv 5 c nm n fl (.slice (some ⟨kb, off, none⟩) 1 cap)) w l w') => K0.cells hw h)
      have HNM := Lib.hid (fun w' (l : Int) (h : LkX M B b (rv 5 c nm n fl (.slice (some ⟨kb, off, none⟩) 1 cap)) w l w') => name_any nm hnm B w' h.base.tabs)
      have HS := Lib.hid S
      clear S hl hV hT ht hP hm K0
      rcases hlet with rfl | rfl | ⟨⟨f67, f83⟩, hlow | hlo | hhi⟩
      · -- 67
        cases hb : nameB nm with
        | true =>
          have HB := Lib.hid hb
          go_enter Tryz.func36, Tryz.ntmps36
          go_wp2_with (go_at_call 45; refine (HNM.out _ _ HS.out).mono ?_; rintro e w1 ⟨rfl, b1⟩; obtain ⟨_, a1, a2, _, _, a5⟩ := (HS.out.below b1).cells; obtain ⟨k00, k01, k02, k03, k04, k05⟩ := HK0.out _ _ (HS.out.below b1); simp only [Nat.zero_mul, Nat.add_zero] at k00 k01 k02 k03 k04 k05; rw [hb])
          refine (HC0.out _ left (HS.out.below b1) (by omega)).mono ?_
          rintro e w2 h
          have hf := LkP.fin (Q := Rt bound (.mk 5 67 nm n fl [p0])) (n := sizes [p0]) (left := left) h (fun hq => ⟨Rt.nested _ _ _ _ _ _ hN (.inr ⟨.inl rfl, .inl HB.out⟩) hq.1 (by simpa [fitsK] using hq.2), by simp only [sizes]; omega, by omega⟩) (HS.out.below b1).base.kept
          obtain ⟨bl, l, rfl, hb2, hl1, kk⟩ := h
          have HF := Lib.hid hf
          clear hf hb2 kk hl1
          go_wp2
          go_ret
          exact HF.out
        | false =>
          by_cases h0 : nm = []
          · subst h0
            rw [decide_eq_true rfl] at hte
            go_enter Tryz.func36, Tryz.ntmps36
            go_wp2_with (go_at_call 45; refine (HNM.out _ _ HS.out).mono ?_; rintro e w1 ⟨rfl, b1⟩; obtain ⟨_, a1, a2, _, _, a5⟩ := (HS.out.below b1).cells; obtain ⟨k00, k01, k02, k03, k04, k05⟩ := HK0.out _ _ (HS.out.below b1); simp only [Nat.zero_mul, Nat.add_zero] at k00 k01 k02 k03 k04 k05; rw [hb])
            refine (HC0.out _ left (HS.out.below b1) (by omega)).mono ?_
            rintro e w2 h
            have hf := LkP.fin (Q := Rt bound (.mk 5 67 [] n fl [p0])) (n := sizes [p0]) (left := left) h (fun hq => ⟨Rt.nested _ _ _ _ _ _ hN (.inr ⟨.inl rfl, .inr rfl⟩) hq.1 (by simpa [fitsK] using hq.2), by simp only [sizes]; omega, by omega⟩) (HS.out.below b1).base.kept
            obtain ⟨bl, l, rfl, hb2, hl1, kk⟩ := h
            have HF := Lib.hid hf
            clear hf hb2 kk hl1
            go_wp2
            go_ret
            exact HF.out
          · rw [decide_eq_false h0] at hte
            go_enter Tryz.func36, Tryz.ntmps36
            go_wp2_with (go_at_call 45; refine (HNM.out _ _ HS.out).mono ?_; rintro e w1 ⟨rfl, b1⟩; obtain ⟨_, a1, a2, _, _, a5⟩ := (HS.out.below b1).cells; rw [hb])
            have S1 := HS.out.below b1
            clear b1
            go_wp2_with fail
            go_ret
            exact LkP.no' S1
      · -- 83
        cases hb : nameB nm with
        | true =>
          have HB := Lib.hid hb
          go_enter Tryz.func36, Tryz.ntmps36
          go_wp2_with (go_at_call 45; refine (HNM.out _ _ HS.out).mono ?_; rintro e w1 ⟨rfl, b1⟩; obtain ⟨_, a1, a2, _, _, a5⟩ := (HS.out.below b1).cells; obtain ⟨k00, k01, k02, k03, k04, k05⟩ := HK0.out _ _ (HS.out.below b1); simp only [Nat.zero_mul, Nat.add_zero] at k00 k01 k02 k03 k04 k05; rw [hb])
          refine (HC0.out _ left (HS.out.below b1) (by omega)).mono ?_
          rintro e w2 h
          have hf := LkP.fin (Q := Rt bound (.mk 5 83 nm n fl [p0])) (n := sizes [p0]) (left := left) h (fun hq => ⟨Rt.nested _ _ _ _ _ _ hN (.inr ⟨.inr rfl, .inl HB.out⟩) hq.1 (by simpa [fitsK] using hq.2), by simp only [sizes]; omega, by omega⟩) (HS.out.below b1).base.kept
          obtain ⟨bl, l, rfl, hb2, hl1, kk⟩ := h
          have HF := Lib.hid hf
          clear hf hb2 kk hl1
          go_wp2
          go_ret
          exact HF.out
        | false =>
          by_cases h0 : nm = []
          · subst h0
            rw [decide_eq_true rfl] at hte
            go_enter Tryz.func36, Tryz.ntmps36
            go_wp2_with (go_at_call 45; refine (HNM.out _ _ HS.out).mono ?_; rintro e w1 ⟨rfl, b1⟩; obtain ⟨_, a1, a2, _, _, a5⟩ := (HS.out.below b1).cells; obtain ⟨k00, k01, k02, k03, k04, k05⟩ := HK0.out _ _ (HS.out.below b1); simp only [Nat.zero_mul, Nat.add_zero] at k00 k01 k02 k03 k04 k05; rw [hb])
            refine (HC0.out _ left (HS.out.below b1) (by omega)).mono ?_
            rintro e w2 h
            have hf := LkP.fin (Q := Rt bound (.mk 5 83 [] n fl [p0])) (n := sizes [p0]) (left := left) h (fun hq => ⟨Rt.nested _ _ _ _ _ _ hN (.inr ⟨.inr rfl, .inr rfl⟩) hq.1 (by simpa [fitsK] using hq.2), by simp only [sizes]; omega, by omega⟩) (HS.out.below b1).base.kept
            obtain ⟨bl, l, rfl, hb2, hl1, kk⟩ := h
            have HF := Lib.hid hf
            clear hf hb2 kk hl1
            go_wp2
            go_ret
            exact HF.out
          · rw [decide_eq_false h0] at hte
            go_enter Tryz.func36, Tryz.ntmps36
            go_wp2_with (go_at_call 45; refine (HNM.out _ _ HS.out).mono ?_; rintro e w1 ⟨rfl, b1⟩; obtain ⟨_, a1, a2, _, _, a5⟩ := (HS.out.below b1).cells; rw [hb])
            have S1 := HS.out.below b1
            clear b1
            go_wp2_with fail
            go_ret
            exact LkP.no' S1
      · -- low
        have f97 : decide ((c.toNat : Int) < 97) = false := by simp; omega
        have f122 : decide ((122 : Int) < (c.toNat : Int)) = false := by simp; omega
        cases hb : nameB nm with
        | true =>
          have HB := Lib.hid hb
          go_enter Tryz.func36, Tryz.ntmps36
          go_wp2_with (go_at_call 45; refine (HNM.out _ _ HS.out).mono ?_; rintro e w1 ⟨rfl, b1⟩; obtain ⟨_, a1, a2, _, _, a5⟩ := (HS.out.below b1).cells; obtain ⟨k00, k01, k02, k03, k04, k05⟩ := HK0.out _ _ (HS.out.below b1); simp only [Nat.zero_mul, Nat.add_zero] at k00 k01 k02 k03 k04 k05; rw [hb])
          refine (HC0.out _ left (HS.out.below b1) (by omega)).mono ?_
          rintro e w2 h
          have hf := LkP.fin (Q := Rt bound (.mk 5 c nm n fl [p0])) (n := sizes [p0]) (left := left) h (fun hq => ⟨Rt.nested _ _ _ _ _ _ hN (.inl ⟨by unfold lowB; simp only [Bool.and_eq_true, decide_eq_true_eq]; omega, HB.out⟩) hq.1 (by simpa [fitsK] using hq.2), by simp only [sizes]; omega, by omega⟩) (HS.out.below b1).base.kept
          obtain ⟨bl, l, rfl, hb2, hl1, kk⟩ := h
          have HF := Lib.hid hf
          clear hf hb2 kk hl1
          go_wp2
          go_ret
          exact HF.out
        | false =>
          go_enter Tryz.func36, Tryz.ntmps36
          go_wp2_with (go_at_call 45; refine (HNM.out _ _ HS.out).mono ?_; rintro e w1 ⟨rfl, b1⟩; obtain ⟨_, a1, a2, _, _, a5⟩ := (HS.out.below b1).cells; rw [hb])
          have S1 := HS.out.below b1
          clear b1
          go_wp2_with fail
          go_ret
          exact LkP.no' S1
      · -- lo
        have f97 : decide ((c.toNat : Int) < 97) = true := by simp; omega
        cases hb : nameB nm
        all_goals
          go_enter Tryz.func36, Tryz.ntmps36
          go_wp2_with (go_at_call 45; refine (HNM.out _ _ HS.out).mono ?_; rintro e w1 ⟨rfl, b1⟩; obtain ⟨_, a1, a2, _, _, a5⟩ := (HS.out.below b1).cells; rw [hb])
          have S1 := HS.out.below b1
          clear b1
          go_wp2_with fail
          go_ret
          exact LkP.no' S1
      · -- hi
        have f97 : decide ((c.toNat : Int) < 97) = false := by simp; omega
        have f122 : decide ((122 : Int) < (c.toNat : Int)) = true := by simp; omega
        cases hb : nameB nm
        all_goals
          go_enter Tryz.func36, Tryz.ntmps36
          go_wp2_with (go_at_call 45; refine (HNM.out _ _ HS.out).mono ?_; rintro e w1 ⟨rfl, b1⟩; obtain ⟨_, a1, a2, _, _, a5⟩ := (HS.out.below b1).cells; rw [hb])
          have S1 := HS.out.below b1
          clear b1
          go_wp2_with fail
          go_ret
          exact LkP.no' S1
    · have hm' : ((m : Int) == 1) = false := by rw [beq_eq_false_iff_ne]; omega
      have HNM := Lib.hid (fun w' (l : Int) (h : LkX M B b (rv 5 c nm n fl (.slice a m cap)) w l w') => name_any nm hnm B w' h.base.tabs)
      have HS := Lib.hid S
      clear S hl hV hT ht hP hk
      rcases hlet with rfl | rfl | ⟨⟨f67, f83⟩, hlow | hlo | hhi⟩
      · -- 67
        cases hb : nameB nm with
        | true =>
          have HB := Lib.hid hb
          go_enter Tryz.func36, Tryz.ntmps36
          go_wp2_with (go_at_call 45; refine (HNM.out _ _ HS.out).mono ?_; rintro e w1 ⟨rfl, b1⟩; obtain ⟨_, a1, a2, _, _, a5⟩ := (HS.out.below b1).cells; rw [hb])
          have S1 := HS.out.below b1
          clear b1
          go_wp2_with fail
          go_ret
          exact LkP.no' S1
        | false =>
          by_cases h0 : nm = []
          · subst h0
            rw [decide_eq_true rfl] at hte
            go_enter Tryz.func36, Tryz.ntmps36
            go_wp2_with (go_at_call 45; refine (HNM.out _ _ HS.out).mono ?_; rintro e w1 ⟨rfl, b1⟩; obtain ⟨_, a1, a2, _, _, a5⟩ := (HS.out.below b1).cells; rw [hb])
            have S1 := HS.out.below b1
            clear b1
            go_wp2_with fail
            go_ret
            exact LkP.no' S1
          · rw [decide_eq_false h0] at hte
            go_enter Tryz.func36, Tryz.ntmps36
            go_wp2_with (go_at_call 45; refine (HNM.out _ _ HS.out).mono ?_; rintro e w1 ⟨rfl, b1⟩; obtain ⟨_, a1, a2, _, _, a5⟩ := (HS.out.below b1).cells; rw [hb])
            have S1 := HS.out.below b1
            clear b1
            go_wp2_with fail
            go_ret
            exact LkP.no' S1
      · -- 83
        cases hb : nameB nm with
        | true =>
          have HB := Lib.hid hb
          go_enter Tryz.func36, Tryz.ntmps36
          go_wp2_with (go_at_call 45; refine (HNM.out _ _ HS.out).mono ?_; rintro e w1 ⟨rfl, b1⟩; obtain ⟨_, a1, a2, _, _, a5⟩ := (HS.out.below b1).cells; rw [hb])
          have S1 := HS.out.below b1
          clear b1
          go_wp2_with fail
          go_ret
          exact LkP.no' S1
        | false =>
          by_cases h0 : nm = []
          · subst h0
            rw [decide_eq_true rfl] at hte
            go_enter Tryz.func36, Tryz.ntmps36
            go_wp2_with (go_at_call 45; refine (HNM.out _ _ HS.out).mono ?_; rintro e w1 ⟨rfl, b1⟩; obtain ⟨_, a1, a2, _, _, a5⟩ := (HS.out.below b1).cells; rw [hb])
            have S1 := HS.out.below b1
            clear b1
            go_wp2_with fail
            go_ret
            exact LkP.no' S1
          · rw [decide_eq_false h0] at hte
            go_enter Tryz.func36, Tryz.ntmps36
            go_wp2_with (go_at_call 45; refine (HNM.out _ _ HS.out).mono ?_; rintro e w1 ⟨rfl, b1⟩; obtain ⟨_, a1, a2, _, _, a5⟩ := (HS.out.below b1).cells; rw [hb])
            have S1 := HS.out.below b1
            clear b1
            go_wp2_with fail
            go_ret
            exact LkP.no' S1
      · -- low
        have f97 : decide ((c.toNat : Int) < 97) = false := by simp; omega
        have f122 : decide ((122 : Int) < (c.toNat : Int)) = false := by simp; omega
        cases hb : nameB nm with
        | true =>
          have HB := Lib.hid hb
          go_enter Tryz.func36, Tryz.ntmps36
          go_wp2_with (go_at_call 45; refine (HNM.out _ _ HS.out).mono ?_; rintro e w1 ⟨rfl, b1⟩; obtain ⟨_, a1, a2, _, _, a5⟩ := (HS.out.below b1).cells; rw [hb])
          have S1 := HS.out.below b1
          clear b1
          go_wp2_with fail
          go_ret
          exact LkP.no' S1
        | false =>
          go_enter Tryz.func36, Tryz.ntmps36
          go_wp2_with (go_at_call 45; refine (HNM.out _ _ HS.out).mono ?_; rintro e w1 ⟨rfl, b1⟩; obtain ⟨_, a1, a2, _, _, a5⟩ := (HS.out.below b1).cells; rw [hb])
          have S1 := HS.out.below b1
          clear b1
          go_wp2_with fail
          go_ret
          exact LkP.no' S1
      · -- lo
        have f97 : decide ((c.toNat : Int) < 97) = true := by simp; omega
        cases hb : nameB nm
        all_goals
          go_enter Tryz.func36, Tryz.ntmps36
          go_wp2_with (go_at_call 45; refine (HNM.out _ _ HS.out).mono ?_; rintro e w1 ⟨rfl, b1⟩; obtain ⟨_, a1, a2, _, _, a5⟩ := (HS.out.below b1).cells; rw [hb])
          have S1 := HS.out.below b1
          clear b1
          go_wp2_with fail
          go_ret
          exact LkP.no' S1
      · -- hi
        have f97 : decide ((c.toNat : Int) < 97) = false := by simp; omega
        have f122 : decide ((122 : Int) < (c.toNat : Int)) = true := by simp; omega
        cases hb : nameB nm
        all_goals
          go_enter Tryz.func36, Tryz.ntmps36
          go_wp2_with (go_at_call 45; refine (HNM.out _ _ HS.out).mono ?_; rintro e w1 ⟨rfl, b1⟩; obtain ⟨_, a1, a2, _, _, a5⟩ := (HS.out.below b1).cells; rw [hb])
          have S1 := HS.out.below b1
          clear b1
          go_wp2_with fail
          go_ret
          exact LkP.no' S1
  · have hN' : decide ((4611686018427387904 : Int) ≤ (n : Int)) = true := by simp; omega
    have HS := Lib.hid S
    clear S hl hV hT ht hP hk
    go_enter Tryz.func36, Tryz.ntmps36
    go_wp2
    go_ret
    exact LkP.no' HS.out
end Go.Proofs.YtidokamjbglkbaaGreatDoor

/- The look at functions, trait objects. -/
namespace Go.Proofs.YtidokamjbglkbaaGreatDoor
open Go.RowKit

theorem emptyTuple_any (kd : Int) (c : UInt8) (nm : List UInt8) (n : Nat) (fl : Bool) (a : Option Addr) (m cap : Nat) (w : World) :
    Calls Tryz.prog 48 #[.agg (rv kd c nm n fl (.slice a m cap))] w fun e w' => e = .returned (.bool (decide (kd = 10) && decide (m = 0))) ∧ Below w.heap.size w w' := by
  have hb : Below w.heap.size w (w.alloc (.cells (rv kd c nm n fl (.slice a m cap)) tRu)) := (Below.refl _ _).alloc (Nat.le_refl _) _
  have HB := Lib.hid hb
  clear hb
  by_cases h : kd = 10
  · subst h
    have e : ((m : Int) == 0) = decide (m = 0) := by rw [Bool.eq_iff_iff]; simp
    go_enter Tryz.func48, Tryz.ntmps48
    go_wp2
    go_ret
    exact ⟨by simp, HB.out⟩
  · have h' : (kd == 10) = false := by rw [beq_eq_false_iff_ne]; exact h
    have hv : (decide (kd = 10) && decide (m = 0)) = false := by simp [h]
    rw [hv]
    clear h hv
    go_enter Tryz.func48, Tryz.ntmps48
    go_wp2
    go_ret
    exact ⟨rfl, HB.out⟩

set_option maxHeartbeats 8000000 in
set_option maxRecDepth 100000 in
theorem other_fn (M B b deep bound left : Nat) (w : World) (c : UInt8) (nm : List UInt8) (n : Nat) (fl : Bool) (a : Option Addr) (m cap : Nat) (V : Nat → Array Value) (ks : List RT) (hk : ks.length = m) (hcap : m ≤ cap ∧ cap ≤ maxLen) (hn0 : n < 18446744073709551616) (hnm : nm.length ≤ 2147483647) (hV : KidsIn B w a m V) (hT : ∀ i (h : i < ks.length), TreeAt M B w (V i) ks[i]) (hP : ∀ x ∈ ks, PieceC x)
    (hM : M ≤ 2147483647) (hm : m ≤ M) (ht : Tabs B w) (hB : B ≤ b) (hw : B ≤ w.heap.size) (hl : Lk b left w) (h1 : left ≤ 300) (h3 : deep ≤ 24) (h4 : bound ≤ 20) :
    Calls Tryz.prog 38 #[.pointer (some ⟨b, 0, none⟩), .agg (rv 15 c nm n fl (.slice a m cap)), .int .i64 deep, .int .i64 bound] w (LkP (Rt bound (.mk 15 c nm n fl ks)) (sizes ks) left B b w) := by
  have S := LkX.start (M := M) (B := B) (b := b) (rv 15 c nm n fl (.slice a m cap)) hl ht hw
  by_cases hN : n ≤ 20
  · have hN' : decide ((20 : Int) < (n : Int)) = false := by simp; omega
    by_cases hm1 : m = 0
    · subst hm1
      have HS := Lib.hid S
      clear S hl hV hT ht hP
      go_enter Tryz.func38, Tryz.ntmps38
      go_wp2
      go_ret
      exact LkP.no' HS.out
    · have hm' : ((m : Int) == 0) = false := by rw [beq_eq_false_iff_ne]; omega
      by_cases hbn : bound + n ≤ 20
      · have hbn' : decide ((20 : Int) < (bound : Int) + (n : Int)) = false := by simp; omega
        obtain ⟨ps, r, rfl⟩ : ∃ ps r, ks = ps ++ [r] := ⟨ks.dropLast, ks.getLast (by intro e; subst e; simp at hk; omega), (List.dropLast_concat_getLast _).symm⟩
        obtain ⟨q, hq⟩ : ∃ q, ps.length = q := ⟨_, rfl⟩
        obtain rfl : q + 1 = m := by simp at hk; omega
        have hm0 : ((q : Int) + 1 == 0) = false := by rw [beq_eq_false_iff_ne]; omega
        obtain ⟨kb, off, kd0, c0, nm0, n0, fl0, ka0, km0, kc0, rfl, K0⟩ := kid_of hk hV hT q (by simp; omega)
        have er : (ps ++ [r])[q]'(by simp; omega) = r := by subst hq; simp
        rw [er] at K0
        obtain ⟨hrk, hrl⟩ := K0.tr.shape
        have HR := Lib.hid hrk
        have HRL := Lib.hid hrl
        have HSZ := Lib.hid (show sizes (ps ++ [r]) = sizes ps + size r by simp [sizes_append, sizes])
        obtain ⟨k00, k01, k02, k03, k04, k05⟩ := K0.cells hw S
        have HA := Lib.hid (fun w' (l : Nat) (h : LkX M B b (rv 15 c nm n fl (.slice (some ⟨kb, off, none⟩) (q + 1) cap)) w l w') => all_call (want := 1) (deep := deep) (bound := bound + n) cap hq (kids_init hV (Nat.le_succ q)) (trees_init hT) (fun x hx => hP x (by simp [hx])) hM (by omega) hB hw (by decide) h3 (by omega) w' l h)
        have HC := Lib.hid (fun w' (l : Nat) (h : LkX M B b (rv 15 c nm n fl (.slice (some ⟨kb, off, none⟩) (q + 1) cap)) w l w') => K0.call hw (hP r (by simp)) hM hB (show 1 ≤ 5 by decide) h3 (show (bound + n) ≤ 20 by omega) w' l h)
        have HY := Lib.hid (LkY.start S (rv kd0 c0 nm0 n0 fl0 (.slice ka0 km0 kc0)))
        have hqx : q + 1 ≤ 9223372036854775807 := by omega
        clear S hl hV hT ht hP hm K0 hrk hrl er
        have HE := Lib.hid (fun w => emptyTuple_any kd0 c0 nm0 n0 fl0 ka0 km0 kc0 w)
        have HB := Lib.hid (fun w => abi_any nm hnm w)
        by_cases het : kd0 = 10 ∧ km0 = 0
        · have hev : (decide (kd0 = 10) && decide (km0 = 0)) = true := by simp [het]
          clear het
          go_enter Tryz.func38, Tryz.ntmps38
          go_wp2_with (go_at_call 48; refine (HE.out _).mono ?_; rintro e w1 ⟨rfl, b1⟩; rw [hev])
          have Y1 := HY.out.below b1
          clear b1
          go_wp2_with fail
          go_ret
          exact LkP.no' Y1.base
        · have hev : (decide (kd0 = 10) && decide (km0 = 0)) = false := by simp; omega
          have HET := Lib.hid het
          clear het
          cases hab : abiB nm with
          | false =>
            go_enter Tryz.func38, Tryz.ntmps38
            go_wp2_with (first
              | (go_at_call 48; refine (HE.out _).mono ?_; rintro e w1 ⟨rfl, b1⟩; rw [hev]; have Y1 := Lib.hid (HY.out.below b1); obtain ⟨_, _, a2, _, _, a5⟩ := Y1.out.base.cells)
              | (go_at_call 49; refine (HB.out _).mono ?_; rintro e w2 ⟨rfl, rfl⟩; rw [hab]))
            go_ret
            exact LkP.no' Y1.out.base
          | true =>
            have HAB := Lib.hid hab
            go_enter Tryz.func38, Tryz.ntmps38
            go_wp2_with (first
              | (go_at_call 48; refine (HE.out _).mono ?_; rintro e w1 ⟨rfl, b1⟩; rw [hev]; have Y1 := Lib.hid (HY.out.below b1); obtain ⟨_, _, a2, _, _, a5⟩ := Y1.out.base.cells)
              | (go_at_call 49; refine (HB.out _).mono ?_; rintro e w2 ⟨rfl, rfl⟩; rw [hab]))
            refine (HA.out _ left Y1.out.base (by omega)).mono ?_
            rintro e w3 h
            obtain ⟨bl, l, rfl, hb, hl1, kk⟩ := h
            cases bl with
            | false =>
              clear hb
              have Y2 := Y1.out.step kk hl1
              clear kk
              go_wp2_with fail
              go_ret
              exact LkP.no' Y2.base
            | true =>
              obtain ⟨hq0, hs0, rfl⟩ := hb rfl
              have Y2 := (Y1.out.step kk hl1).cast (show _ = ((left - sizes ps : Nat) : Int) by omega)
              have HQ0 := Lib.hid hq0
              clear kk hl1 hb hq0 hab
              obtain ⟨k20, k21, k22, k23, k24, k25⟩ := Y2.cells2
              have HY2 := Lib.hid Y2
              clear Y2
              go_wp2_with fail
              refine (HC.out _ (left - sizes ps) HY2.out.base (by omega)).mono ?_
              rintro e w4 h
              have hf := LkP.fin (Q := Rt bound (.mk 15 c nm n fl (ps ++ [r]))) (n := sizes (ps ++ [r])) (left := left) h (fun hq => ⟨Rt.fn _ _ _ _ _ _ _ hbn HAB.out (fun h => HET.out ⟨HR.out ▸ h.1, by rw [← HRL.out, h.2]; rfl⟩) (fun x hx => (HQ0.out x hx).1) (fun x hx => by simpa [fitsK] using (HQ0.out x hx).2) hq.1 (by simpa [fitsK] using hq.2), by rw [HSZ.out]; omega, by omega⟩) HY2.out.base.base.kept
              obtain ⟨bl, l, rfl, hb, hl1, kk⟩ := h
              have HF := Lib.hid hf
              clear hf hb kk hl1
              go_wp2_with fail
              go_ret
              exact HF.out
      · have hbn' : decide ((20 : Int) < (bound : Int) + (n : Int)) = true := by simp; omega
        have HS := Lib.hid S
        clear S hl hV hT ht hP
        go_enter Tryz.func38, Tryz.ntmps38
        go_wp2
        go_ret
        exact LkP.no' HS.out
  · have hN' : decide ((20 : Int) < (n : Int)) = true := by simp; omega
    have HS := Lib.hid S
    clear S hl hV hT ht hP
    go_enter Tryz.func38, Tryz.ntmps38
    go_wp2
    go_ret
    exact LkP.no' HS.out

set_option maxHeartbeats 8000000 in
set_option maxRecDepth 100000 in
theorem other_dyn (M B b deep bound left : Nat) (w : World) (c : UInt8) (nm : List UInt8) (n : Nat) (fl : Bool) (a : Option Addr) (m cap : Nat) (V : Nat → Array Value) (ks : List RT) (hk : ks.length = m) (hcap : m ≤ cap ∧ cap ≤ maxLen) (hn0 : n < 18446744073709551616) (_ : nm.length ≤ 2147483647) (hV : KidsIn B w a m V) (hT : ∀ i (h : i < ks.length), TreeAt M B w (V i) ks[i]) (hP : ∀ x ∈ ks, PieceC x)
    (hM : M ≤ 2147483647) (hm : m ≤ M) (ht : Tabs B w) (hB : B ≤ b) (hw : B ≤ w.heap.size) (hl : Lk b left w) (h1 : left ≤ 300) (h3 : deep ≤ 24) (h4 : bound ≤ 20) :
    Calls Tryz.prog 38 #[.pointer (some ⟨b, 0, none⟩), .agg (rv 16 c nm n fl (.slice a m cap)), .int .i64 deep, .int .i64 bound] w (LkP (Rt bound (.mk 16 c nm n fl ks)) (sizes ks) left B b w) := by
  have S := LkX.start (M := M) (B := B) (b := b) (rv 16 c nm n fl (.slice a m cap)) hl ht hw
  by_cases hN : n ≤ 20
  · have hN' : decide ((20 : Int) < (n : Int)) = false := by simp; omega
    by_cases hm1 : m = 0
    · subst hm1
      have HS := Lib.hid S
      clear S hl hV hT ht hP
      go_enter Tryz.func38, Tryz.ntmps38
      go_wp2
      go_ret
      exact LkP.no' HS.out
    · have hm' : ((m : Int) == 0) = false := by rw [beq_eq_false_iff_ne]; omega
      by_cases hbn : bound + n ≤ 20
      · have hbn' : decide ((20 : Int) < (bound : Int) + (n : Int)) = false := by simp; omega
        obtain ⟨ps, r, rfl⟩ : ∃ ps r, ks = ps ++ [r] := ⟨ks.dropLast, ks.getLast (by intro e; subst e; simp at hk; omega), (List.dropLast_concat_getLast _).symm⟩
        obtain ⟨q, hq⟩ : ∃ q, ps.length = q := ⟨_, rfl⟩
        obtain rfl : q + 1 = m := by simp at hk; omega
        have hm0 : ((q : Int) + 1 == 0) = false := by rw [beq_eq_false_iff_ne]; omega
        obtain ⟨kb, off, kd0, c0, nm0, n0, fl0, ka0, km0, kc0, rfl, K0⟩ := kid_of hk hV hT q (by simp; omega)
        have er : (ps ++ [r])[q]'(by simp; omega) = r := by subst hq; simp
        rw [er] at K0
        obtain ⟨hrk, hrl⟩ := K0.tr.shape
        have HR := Lib.hid hrk
        have HRL := Lib.hid hrl
        have HSZ := Lib.hid (show sizes (ps ++ [r]) = sizes ps + size r by simp [sizes_append, sizes])
        obtain ⟨k00, k01, k02, k03, k04, k05⟩ := K0.cells hw S
        have HA := Lib.hid (fun w' (l : Nat) (h : LkX M B b (rv 16 c nm n fl (.slice (some ⟨kb, off, none⟩) (q + 1) cap)) w l w') => all_call (want := 4) (deep := deep) (bound := bound + n) cap hq (kids_init hV (Nat.le_succ q)) (trees_init hT) (fun x hx => hP x (by simp [hx])) hM (by omega) hB hw (by decide) h3 (by omega) w' l h)
        have HC := Lib.hid (fun w' (l : Nat) (h : LkX M B b (rv 16 c nm n fl (.slice (some ⟨kb, off, none⟩) (q + 1) cap)) w l w') => K0.call hw (hP r (by simp)) hM hB (show 2 ≤ 5 by decide) h3 (show bound ≤ 20 by omega) w' l h)
        have HY := Lib.hid (LkY.start S (rv kd0 c0 nm0 n0 fl0 (.slice ka0 km0 kc0)))
        have hqx : q + 1 ≤ 9223372036854775807 := by omega
        clear S hl hV hT ht hP hm K0 hrk hrl er
        by_cases hq1 : 1 ≤ q
        · have hq' : decide ((2 : Int) ≤ (q : Int) + 1) = true := by simp; omega
          go_enter Tryz.func38, Tryz.ntmps38
          go_wp2_with fail
          refine (HA.out _ left HY.out.base (by omega)).mono ?_
          rintro e w1 h
          obtain ⟨bl, l, rfl, hb, hl1, kk⟩ := h
          cases bl with
          | false =>
            clear hb
            have Y2 := HY.out.step kk hl1
            clear kk
            go_wp2_with fail
            go_ret
            exact LkP.no' Y2.base
          | true =>
            obtain ⟨hq0, hs0, rfl⟩ := hb rfl
            have Y2 := (HY.out.step kk hl1).cast (show _ = ((left - sizes ps : Nat) : Int) by omega)
            have HQ0 := Lib.hid hq0
            clear kk hl1 hb hq0
            obtain ⟨k20, k21, k22, k23, k24, k25⟩ := Y2.cells2
            have HY2 := Lib.hid Y2
            clear Y2
            by_cases hk19 : kd0 = 19
            · have hk' : (kd0 == 19) = true := by simp [hk19]
              have HPS := Lib.hid (show ps ≠ [] by intro e; subst e; simp at hq; omega)
              have HK19 := Lib.hid hk19
              clear hk19
              go_wp2_with fail
              refine (HC.out _ (left - sizes ps) HY2.out.base (by omega)).mono ?_
              rintro e w4 h
              have hf := LkP.fin (Q := Rt bound (.mk 16 c nm n fl (ps ++ [r]))) (n := sizes (ps ++ [r])) (left := left) h (fun hq => ⟨Rt.dyn _ _ _ _ _ _ _ hbn HPS.out (fun x hx => (HQ0.out x hx).1) (fun x hx => by simpa [fitsK] using (HQ0.out x hx).2) hq.1 (HR.out.trans HK19.out), by rw [HSZ.out]; omega, by omega⟩) HY2.out.base.base.kept
              obtain ⟨bl, l, rfl, hb, hl1, kk⟩ := h
              have HF := Lib.hid hf
              clear hf hb kk hl1
              go_wp2_with fail
              go_ret
              exact HF.out
            · have hk' : (kd0 == 19) = false := by rw [beq_eq_false_iff_ne]; exact hk19
              clear hk19
              go_wp2_with fail
              go_ret
              exact LkP.no' HY2.out.base
        · have hq' : decide ((2 : Int) ≤ (q : Int) + 1) = false := by simp; omega
          go_enter Tryz.func38, Tryz.ntmps38
          go_wp2_with fail
          go_ret
          exact LkP.no' HY.out.base
      · have hbn' : decide ((20 : Int) < (bound : Int) + (n : Int)) = true := by simp; omega
        have HS := Lib.hid S
        clear S hl hV hT ht hP
        go_enter Tryz.func38, Tryz.ntmps38
        go_wp2
        go_ret
        exact LkP.no' HS.out
  · have hN' : decide ((20 : Int) < (n : Int)) = true := by simp; omega
    have HS := Lib.hid S
    clear S hl hV hT ht hP
    go_enter Tryz.func38, Tryz.ntmps38
    go_wp2
    go_ret
    exact LkP.no' HS.out

end Go.Proofs.YtidokamjbglkbaaGreatDoor

