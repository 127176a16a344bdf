/- RustHasBinders. -/
import Derived.Test.YtidokamjbglkbaaGreatDoorY36
import Derived.Test.YtidokamjbglkbaaGreatDoorY37
namespace Go.Proofs.YtidokamjbglkbaaGreatDoor
open Go.RowKit

theorem TreeAt.list {M N : Nat} {w : World} {kd : Int} {c : UInt8} {nm : List UInt8} {n : Nat} {fl : Bool} {a : Option Addr} {m cap : Nat} {t : RT} (h : TreeAt M N w (rv kd c nm n fl (.slice a m cap)) t) : ∃ V ks, t = .mk kd c nm n fl ks ∧ ListAt M N w a m cap V ks := by
  generalize hv : rv kd c nm n fl (.slice a m cap) = v at h
  cases h with
  | mk kd2 c2 nm2 n2 fl2 a2 m2 cap2 V ks hn hk hc hnm hV hT =>
    simp only [rv, Array.mk.injEq, List.cons.injEq, Value.int.injEq, Value.slice.injEq, Value.string.injEq, Value.bool.injEq, and_true, true_and] at hv
    obtain ⟨e1, e2, e3, e4, e5, e6, e7, e8⟩ := hv
    obtain rfl : kd = kd2 := e1
    obtain rfl : c = c2 := UInt8.toNat_inj.1 (by omega)
    obtain rfl : nm = nm2 := by
      have := congrArg (fun b => b.data.toList) e3
      simpa [bs] using this
    obtain rfl : n = n2 := by omega
    subst e5; subst e6; subst e7; subst e8
    exact ⟨V, ks, rfl, hk, hc, hnm.2, hV, hT⟩
theorem noBs_of {ks : List RT} (h : ∀ k ∈ ks, noB k) : noBs ks := by
  induction ks with
  | nil => simp [noBs]
  | cons k ks ih => rw [noBs]; exact ⟨h k (by simp), ih fun x hx => h x (List.mem_cons_of_mem _ hx)⟩

set_option maxHeartbeats 4000000 in
set_option maxRecDepth 100000 in
theorem hasB_any (M : Nat) (hM : M ≤ 2147483647) : ∀ (sz : Nat) (t : RT), size t ≤ sz → ∀ (B : Nat) (kd : Int) (c : UInt8) (nm : List UInt8) (n : Nat) (fl : Bool) (a : Option Addr) (m cap : Nat) (w : World), Tabs B w → B ≤ w.heap.size → TreeAt M B w (rv kd c nm n fl (.slice a m cap)) t →
    Calls Tryz.prog 19 #[.agg (rv kd c nm n fl (.slice a m cap))] w fun e w' => ∃ bl : Bool, e = .returned (.bool bl) ∧ (bl = false → noB t) ∧ Below w.heap.size w w' := by
  intro sz
  induction sz with
  | zero => intro t h; have := size_pos t; omega
  | succ sz ih =>
    intro t hs B kd c nm n fl a m cap w ht hB hT
    obtain ⟨V, ks, rfl, hL⟩ := hT.list
    have IH := Lib.hid (fun (x : RT) (hx : x ∈ ks) => ih x (by have h1 := size_mem hx; rw [size] at hs; omega))
    have HS := Lib.hid (Sta0.alloc (Sta.start ht hB trivial : Sta0 w w) (.cells (rv kd c nm n fl (.slice a m cap)) tRu))
    have HL := Lib.hid (hL.mono hB fun _ _ => rfl : ListAt M w.heap.size w a m cap V ks)
    have HK := Lib.hid (fun i h => kid_of HL.out.len HL.out.kids HL.out.tree i h)
    have hk := hL.len
    have hm := hL.le
    have hmx : m ≤ 9223372036854775807 := by omega
    have FIN : Hid ((∀ x ∈ ks, noB x) → (¬ (0 < n ∧ (kd = 15 ∨ kd = 16))) → noB (.mk kd c nm n fl ks)) := Lib.hid (fun h1 h2 => by rw [noB]; exact ⟨h2, noBs_of h1⟩)
    clear hL ht hB hT ih hs
    by_cases h0 : 0 < n
    · have hd0 : decide ((0 : Int) < (n : Int)) = true := by simp; omega
      by_cases h15 : kd = 15
      · have hk15 : (kd == (15 : Int)) = true := by rw [h15]; rfl
        clear h15
        go_enter Tryz.func19, Tryz.ntmps19
        go_wp2
        go_ret
        exact ⟨true, rfl, fun h => absurd h (by decide), (Below.refl _ _).alloc (Nat.le_refl _) _⟩
      · have hk15 : (kd == (15 : Int)) = false := by rw [beq_eq_false_iff_ne]; exact h15
        by_cases h16 : kd = 16
        · have hk16 : (kd == (16 : Int)) = true := by rw [h16]; rfl
          clear h15 h16
          go_enter Tryz.func19, Tryz.ntmps19
          go_wp2
          go_ret
          exact ⟨true, rfl, fun h => absurd h (by decide), (Below.refl _ _).alloc (Nat.le_refl _) _⟩
        · have hk16 : (kd == (16 : Int)) = false := by rw [beq_eq_false_iff_ne]; exact h16
          have FIN := Lib.hid (fun h => FIN.out h (by omega))
          clear h15 h16
          go_enter Tryz.func19, Tryz.ntmps19
          go_wp2_with fail
          go_loopg [4, 21] m (fun q _ i wr => ∃ j : Nat, q = m - j ∧ j ≤ m ∧ i = .int .i64 j ∧ (∀ x ∈ ks.take j, noB x) ∧ Sta0 w wr)
          case atStart => exact ⟨0, by omega, Nat.zero_le _, rfl, by simp, HS.out⟩
          case round =>
            obtain ⟨j, rfl, hj, rfl, hq, S⟩ := hrel
            by_cases hlt : j < m
            · obtain ⟨kb, off, kd1, c1, nm1, n1, fl1, ka1, km1, kc1, rfl, K⟩ := HK.out j (by omega)
              have K1 := K.keep S.same
              obtain ⟨_, k0, k1, k2, k3, k4, k5, _⟩ := K1
              have S1 := Sta0.alloc S (.cells (rv kd1 c1 nm1 n1 fl1 (.slice ka1 km1 kc1)) tRu)
              have HC := Lib.hid (IH.out ks[j] (List.getElem_mem (by omega)) _ kd1 c1 nm1 n1 fl1 ka1 km1 kc1 _ S1.tabs (Nat.le_refl _) ((K.keep S1.same).tr.mono S1.below.size fun _ _ => rfl))
              have HS1 := Lib.hid S1
              have HQ := Lib.hid hq
              clear S1 S K hq
              go_wp2_with fail
              refine HC.out.mono ?_
              rintro e w1 ⟨bl, rfl, hb, kk⟩
              have S2 := Sta0.go HS1.out kk
              clear kk HC
              cases bl with
              | true =>
                clear hb
                go_wp2
                go_ret
                exact ⟨true, rfl, fun h => absurd h (by decide), S2.below⟩
              | false =>
                have HQ1 := Lib.hid (hb rfl)
                clear hb
                go_wp2_with fail
                go_roundg (m - (j + 1))
                case measure => omega
                case rel =>
                  refine ⟨j + 1, rfl, by omega, by go_num, ?_, S2⟩
                  intro x hx
                  rw [List.take_succ_eq_append_getElem (by omega)] at hx
                  rcases List.mem_append.1 hx with hx | hx
                  · exact HQ.out x hx
                  · simp at hx; subst hx; exact HQ1.out
            · have hjm : j = m := by omega
              subst hjm
              have HQ := Lib.hid hq
              have HSS := Lib.hid S
              clear hq S
              go_wp2_with fail
              go_ret
              refine ⟨false, rfl, fun _ => ?_, HSS.out.below⟩
              have hq := HQ.out
              rw [← hk, List.take_length] at hq
              exact FIN.out hq
    · have hd0 : decide ((0 : Int) < (n : Int)) = false := by simp; omega
      have FIN := Lib.hid (fun h => FIN.out h (by omega))
      go_enter Tryz.func19, Tryz.ntmps19
      go_wp2_with fail
      go_loopg [4, 21] m (fun q _ i wr => ∃ j : Nat, q = m - j ∧ j ≤ m ∧ i = .int .i64 j ∧ (∀ x ∈ ks.take j, noB x) ∧ Sta0 w wr)
      case atStart => exact ⟨0, by omega, Nat.zero_le _, rfl, by simp, HS.out⟩
      case round =>
        obtain ⟨j, rfl, hj, rfl, hq, S⟩ := hrel
        by_cases hlt : j < m
        · obtain ⟨kb, off, kd1, c1, nm1, n1, fl1, ka1, km1, kc1, rfl, K⟩ := HK.out j (by omega)
          have K1 := K.keep S.same
          obtain ⟨_, k0, k1, k2, k3, k4, k5, _⟩ := K1
          have S1 := Sta0.alloc S (.cells (rv kd1 c1 nm1 n1 fl1 (.slice ka1 km1 kc1)) tRu)
          have HC := Lib.hid (IH.out ks[j] (List.getElem_mem (by omega)) _ kd1 c1 nm1 n1 fl1 ka1 km1 kc1 _ S1.tabs (Nat.le_refl _) ((K.keep S1.same).tr.mono S1.below.size fun _ _ => rfl))
          have HS1 := Lib.hid S1
          have HQ := Lib.hid hq
          clear S1 S K hq
          go_wp2_with fail
          refine HC.out.mono ?_
          rintro e w1 ⟨bl, rfl, hb, kk⟩
          have S2 := Sta0.go HS1.out kk
          clear kk HC
          cases bl with
          | true =>
            clear hb
            go_wp2
            go_ret
            exact ⟨true, rfl, fun h => absurd h (by decide), S2.below⟩
          | false =>
            have HQ1 := Lib.hid (hb rfl)
            clear hb
            go_wp2_with fail
            go_roundg (m - (j + 1))
            case measure => omega
            case rel =>
              refine ⟨j + 1, rfl, by omega, by go_num, ?_, S2⟩
              intro x hx
              rw [List.take_succ_eq_append_getElem (by omega)] at hx
              rcases List.mem_append.1 hx with hx | hx
              · exact HQ.out x hx
              · simp at hx; subst hx; exact HQ1.out
        · have hjm : j = m := by omega
          subst hjm
          have HQ := Lib.hid hq
          have HSS := Lib.hid S
          clear hq S
          go_wp2_with fail
          go_ret
          refine ⟨false, rfl, fun _ => ?_, HSS.out.below⟩
          have hq := HQ.out
          rw [← hk, List.take_length] at hq
          exact FIN.out hq
end Go.Proofs.YtidokamjbglkbaaGreatDoor
