/- isRustABI. -/
import Derived.Test.YtdapnoocmpbijaaGreatDoorY22
import Derived.Test.YtdapnoocmpbijaaGreatDoorY05
namespace Go.Proofs.YtdapnoocmpbijaaGreatDoor
open Go.RowKit

/-- A byte that may stand at place i of an ABI. -/
def abiAt (i : Nat) (c : UInt8) : Bool := if i = 0 then lowB c else abiTail c
theorem getD_at {l : List UInt8} {i : Nat} (h : i < l.length) : l.getD i 0 = l[i] := by simp [List.getD_eq_getElem?_getD, h]
theorem abiB_at {l : List UInt8} (h0 : l ≠ []) (hC : l ≠ [67]) : (abiB l = true ↔ (∀ i, i < l.length → abiAt i (l.getD i 0) = true) ∧ l.length ≤ 20) := by
  unfold abiB
  rw [decide_eq_false h0, decide_eq_false hC, Bool.false_or, Bool.false_or]
  cases l with
  | nil => exact absurd rfl h0
  | cons c l =>
    simp only [Bool.and_eq_true, decide_eq_true_eq, List.all_eq_true]
    constructor
    · rintro ⟨h1, h2, h3⟩
      refine ⟨fun i hi => ?_, h3⟩
      cases i with
      | zero => simpa [abiAt] using h1
      | succ i =>
        have hi' : i < l.length := by simpa using hi
        simp only [abiAt, List.getD_cons_succ]
        rw [if_neg (by omega), getD_at hi']
        exact h2 _ (List.getElem_mem hi')
    · rintro ⟨h1, h3⟩
      refine ⟨by simpa [abiAt] using h1 0 (by simp), fun x hx => ?_, h3⟩
      obtain ⟨i, hi, rfl⟩ := List.mem_iff_getElem.1 hx
      have := h1 (i + 1) (by simp; omega)
      simp only [abiAt, List.getD_cons_succ] at this
      rw [if_neg (by omega), getD_at hi] at this
      exact this
theorem abiAt_0 {c : UInt8} {n : Nat} {g : Bool} (hn : c.toNat = n) (h : abiAt 0 c = g) : (g = true ↔ 97 ≤ n ∧ n ≤ 122) := by
  subst hn; subst h; simp [abiAt, lowB]
theorem abiAt_1 {c : UInt8} {n j : Nat} {g : Bool} (hj : j ≠ 0) (hn : c.toNat = n) (h : abiAt j c = g) : (g = true ↔ (97 ≤ n ∧ n ≤ 122) ∨ n = 45 ∨ (48 ≤ n ∧ n ≤ 57)) := by
  subst hn; subst h; simp [abiAt, hj, abiTail, lowB]

set_option maxHeartbeats 8000000 in
set_option maxRecDepth 100000 in
theorem abi_any (l : List UInt8) (hl : l.length ≤ 2147483647) (w : World) : Calls Tryz.prog 59 #[.string (bs l)] w fun e w' => e = .returned (.bool (abiB l)) ∧ w = w' := by
  by_cases h0 : l = []
  · subst h0
    have ht : (bs []).toList.isEmpty = true := by rw [ByteArray.toList_eq]; rfl
    go_enter Tryz.func59, Tryz.ntmps59
    go_wp2
    go_ret
    exact ⟨rfl, rfl⟩
  · have ht : (bs l).toList.isEmpty = false := by rw [ByteArray.toList_eq]; cases l with | nil => exact absurd rfl h0 | cons a l => rfl
    by_cases hC : l = [67]
    · subst hC
      have h67 : ((bs [67]).toList == [67]) = true := by rw [ByteArray.toList_eq]; rfl
      go_enter Tryz.func59, Tryz.ntmps59
      go_wp2
      go_ret
      exact ⟨rfl, rfl⟩
    · have h67 : ((bs l).toList == [67]) = false := by rw [ByteArray.toList_eq, beq_eq_false_iff_ne]; exact hC
      obtain ⟨v, hv⟩ : ∃ v, abiB l = v := ⟨_, rfl⟩
      rw [hv]
      have hv' := abiB_at h0 hC
      rw [hv] at hv'
      have HV := Lib.hid hv'
      clear hv hv' h0 hC
      go_enter Tryz.func59, Tryz.ntmps59
      go_wp2_with fail
      go_loopg [3, 4] l.length (fun n i _ wr => ∃ j : Nat, n = l.length - j ∧ j ≤ l.length ∧ i = .int .i64 j ∧ (∀ i, i < j → abiAt i (l.getD i 0) = true) ∧ wr = w)
      case atStart => exact ⟨0, by omega, Nat.zero_le _, rfl, fun i h => by omega, rfl⟩
      case round =>
        obtain ⟨j, rfl, hj, rfl, hq, rfl⟩ := hrel
        by_cases hlt : j < l.length
        · have hlt' : j < (bs l).size := by simpa using hlt
          obtain ⟨g, hg⟩ : ∃ g, abiAt j (l[j]'hlt) = g := ⟨_, rfl⟩
          have REL0 : g = true → ∀ i, i < j + 1 → abiAt i (l.getD i 0) = true := by
            intro hgt i hij
            by_cases e : i = j
            · subst e; rw [getD_at hlt, hg, hgt]
            · exact hq i (by omega)
          have BAD0 : g = false → v = false := by
            intro hgf
            cases hvv : v with
            | false => rfl
            | true =>
              have := (HV.out.1 hvv).1 j hlt
              rw [getD_at hlt, hg, hgf] at this
              cases this
          clear hq
          by_cases hj0 : j = 0
          · subst hj0
            have hg := abiAt_0 rfl hg
            cases g with
            | false =>
              have BAD := Lib.hid (BAD0 rfl)
              have hg' : ¬ (97 ≤ (l[0]'hlt).toNat ∧ (l[0]'hlt).toNat ≤ 122) := fun h => by have := hg.2 h; cases this
              clear REL0 BAD0 hg
              have hg := hg'
              clear hg'
              have hcl : (l[0]'hlt).toNat ≤ 44 ∨ (l[0]'hlt).toNat = 45 ∨ (46 ≤ (l[0]'hlt).toNat ∧ (l[0]'hlt).toNat ≤ 47) ∨ (48 ≤ (l[0]'hlt).toNat ∧ (l[0]'hlt).toNat ≤ 57) ∨ (58 ≤ (l[0]'hlt).toNat ∧ (l[0]'hlt).toNat ≤ 96) ∨ (97 ≤ (l[0]'hlt).toNat ∧ (l[0]'hlt).toNat ≤ 122) ∨ 123 ≤ (l[0]'hlt).toNat := by omega
              rcases hcl with h | h | h | h | h | h | h
              all_goals first
                | (exfalso; omega)
                | skip
              all_goals
                first
                  | have F1 : decide (((l[0]'hlt).toNat : Int) < 97) = true := decide_eq_true (by omega)
                  | have F1 : decide (((l[0]'hlt).toNat : Int) < 97) = false := decide_eq_false (by omega)
                first
                  | have F2 : decide ((122 : Int) < ((l[0]'hlt).toNat : Int)) = true := decide_eq_true (by omega)
                  | have F2 : decide ((122 : Int) < ((l[0]'hlt).toNat : Int)) = false := decide_eq_false (by omega)
                first
                  | have F3 : decide (((l[0]'hlt).toNat : Int) < 48) = true := decide_eq_true (by omega)
                  | have F3 : decide (((l[0]'hlt).toNat : Int) < 48) = false := decide_eq_false (by omega)
                first
                  | have F4 : decide ((57 : Int) < ((l[0]'hlt).toNat : Int)) = true := decide_eq_true (by omega)
                  | have F4 : decide ((57 : Int) < ((l[0]'hlt).toNat : Int)) = false := decide_eq_false (by omega)
                first
                  | have F5 : (((l[0]'hlt).toNat : Int) != 45) = true := bne_iff_ne.2 (by omega)
                  | have F5 : (((l[0]'hlt).toNat : Int) != 45) = false := bne_eq_false_iff_eq.2 (by omega)
                clear h hg
                go_wp2_with fail
                go_ret
                exact ⟨by rw [BAD.out]; rfl, rfl⟩
            | true =>
              have REL := Lib.hid (REL0 rfl)
              have hg' := hg.1 rfl
              clear REL0 BAD0 hg
              have hg := hg'
              clear hg'
              have hcl : (l[0]'hlt).toNat ≤ 44 ∨ (l[0]'hlt).toNat = 45 ∨ (46 ≤ (l[0]'hlt).toNat ∧ (l[0]'hlt).toNat ≤ 47) ∨ (48 ≤ (l[0]'hlt).toNat ∧ (l[0]'hlt).toNat ≤ 57) ∨ (58 ≤ (l[0]'hlt).toNat ∧ (l[0]'hlt).toNat ≤ 96) ∨ (97 ≤ (l[0]'hlt).toNat ∧ (l[0]'hlt).toNat ≤ 122) ∨ 123 ≤ (l[0]'hlt).toNat := by omega
              rcases hcl with h | h | h | h | h | h | h
              all_goals first
                | (exfalso; omega)
                | skip
              all_goals
                first
                  | have F1 : decide (((l[0]'hlt).toNat : Int) < 97) = true := decide_eq_true (by omega)
                  | have F1 : decide (((l[0]'hlt).toNat : Int) < 97) = false := decide_eq_false (by omega)
                first
                  | have F2 : decide ((122 : Int) < ((l[0]'hlt).toNat : Int)) = true := decide_eq_true (by omega)
                  | have F2 : decide ((122 : Int) < ((l[0]'hlt).toNat : Int)) = false := decide_eq_false (by omega)
                first
                  | have F3 : decide (((l[0]'hlt).toNat : Int) < 48) = true := decide_eq_true (by omega)
                  | have F3 : decide (((l[0]'hlt).toNat : Int) < 48) = false := decide_eq_false (by omega)
                first
                  | have F4 : decide ((57 : Int) < ((l[0]'hlt).toNat : Int)) = true := decide_eq_true (by omega)
                  | have F4 : decide ((57 : Int) < ((l[0]'hlt).toNat : Int)) = false := decide_eq_false (by omega)
                first
                  | have F5 : (((l[0]'hlt).toNat : Int) != 45) = true := bne_iff_ne.2 (by omega)
                  | have F5 : (((l[0]'hlt).toNat : Int) != 45) = false := bne_eq_false_iff_eq.2 (by omega)
                clear h hg
                go_wp2_with fail
                go_roundg (l.length - (0 + 1))
                case measure => omega
                case rel => exact ⟨0 + 1, rfl, by omega, by go_num, REL.out, rfl⟩
          · have hg := abiAt_1 hj0 rfl hg
            have f_j : ((j : Int) == 0) = false := by rw [beq_eq_false_iff_ne]; omega
            cases g with
            | false =>
              have BAD := Lib.hid (BAD0 rfl)
              have hg' : ¬ ((97 ≤ (l[j]'hlt).toNat ∧ (l[j]'hlt).toNat ≤ 122) ∨ (l[j]'hlt).toNat = 45 ∨ (48 ≤ (l[j]'hlt).toNat ∧ (l[j]'hlt).toNat ≤ 57)) := fun h => by have := hg.2 h; cases this
              clear REL0 BAD0 hg
              have hg := hg'
              clear hg'
              have hcl : (l[j]'hlt).toNat ≤ 44 ∨ (l[j]'hlt).toNat = 45 ∨ (46 ≤ (l[j]'hlt).toNat ∧ (l[j]'hlt).toNat ≤ 47) ∨ (48 ≤ (l[j]'hlt).toNat ∧ (l[j]'hlt).toNat ≤ 57) ∨ (58 ≤ (l[j]'hlt).toNat ∧ (l[j]'hlt).toNat ≤ 96) ∨ (97 ≤ (l[j]'hlt).toNat ∧ (l[j]'hlt).toNat ≤ 122) ∨ 123 ≤ (l[j]'hlt).toNat := by omega
              rcases hcl with h | h | h | h | h | h | h
              all_goals first
                | (exfalso; omega)
                | skip
              all_goals
                first
                  | have F1 : decide (((l[j]'hlt).toNat : Int) < 97) = true := decide_eq_true (by omega)
                  | have F1 : decide (((l[j]'hlt).toNat : Int) < 97) = false := decide_eq_false (by omega)
                first
                  | have F2 : decide ((122 : Int) < ((l[j]'hlt).toNat : Int)) = true := decide_eq_true (by omega)
                  | have F2 : decide ((122 : Int) < ((l[j]'hlt).toNat : Int)) = false := decide_eq_false (by omega)
                first
                  | have F3 : decide (((l[j]'hlt).toNat : Int) < 48) = true := decide_eq_true (by omega)
                  | have F3 : decide (((l[j]'hlt).toNat : Int) < 48) = false := decide_eq_false (by omega)
                first
                  | have F4 : decide ((57 : Int) < ((l[j]'hlt).toNat : Int)) = true := decide_eq_true (by omega)
                  | have F4 : decide ((57 : Int) < ((l[j]'hlt).toNat : Int)) = false := decide_eq_false (by omega)
                first
                  | have F5 : (((l[j]'hlt).toNat : Int) != 45) = true := bne_iff_ne.2 (by omega)
                  | have F5 : (((l[j]'hlt).toNat : Int) != 45) = false := bne_eq_false_iff_eq.2 (by omega)
                clear h hg
                go_wp2_with fail
                go_ret
                exact ⟨by rw [BAD.out]; rfl, rfl⟩
            | true =>
              have REL := Lib.hid (REL0 rfl)
              have hg' := hg.1 rfl
              clear REL0 BAD0 hg
              have hg := hg'
              clear hg'
              have hcl : (l[j]'hlt).toNat ≤ 44 ∨ (l[j]'hlt).toNat = 45 ∨ (46 ≤ (l[j]'hlt).toNat ∧ (l[j]'hlt).toNat ≤ 47) ∨ (48 ≤ (l[j]'hlt).toNat ∧ (l[j]'hlt).toNat ≤ 57) ∨ (58 ≤ (l[j]'hlt).toNat ∧ (l[j]'hlt).toNat ≤ 96) ∨ (97 ≤ (l[j]'hlt).toNat ∧ (l[j]'hlt).toNat ≤ 122) ∨ 123 ≤ (l[j]'hlt).toNat := by omega
              rcases hcl with h | h | h | h | h | h | h
              all_goals first
                | (exfalso; omega)
                | skip
              all_goals
                first
                  | have F1 : decide (((l[j]'hlt).toNat : Int) < 97) = true := decide_eq_true (by omega)
                  | have F1 : decide (((l[j]'hlt).toNat : Int) < 97) = false := decide_eq_false (by omega)
                first
                  | have F2 : decide ((122 : Int) < ((l[j]'hlt).toNat : Int)) = true := decide_eq_true (by omega)
                  | have F2 : decide ((122 : Int) < ((l[j]'hlt).toNat : Int)) = false := decide_eq_false (by omega)
                first
                  | have F3 : decide (((l[j]'hlt).toNat : Int) < 48) = true := decide_eq_true (by omega)
                  | have F3 : decide (((l[j]'hlt).toNat : Int) < 48) = false := decide_eq_false (by omega)
                first
                  | have F4 : decide ((57 : Int) < ((l[j]'hlt).toNat : Int)) = true := decide_eq_true (by omega)
                  | have F4 : decide ((57 : Int) < ((l[j]'hlt).toNat : Int)) = false := decide_eq_false (by omega)
                first
                  | have F5 : (((l[j]'hlt).toNat : Int) != 45) = true := bne_iff_ne.2 (by omega)
                  | have F5 : (((l[j]'hlt).toNat : Int) != 45) = false := bne_eq_false_iff_eq.2 (by omega)
                clear h hg
                go_wp2_with fail
                go_roundg (l.length - (j + 1))
                case measure => omega
                case rel => exact ⟨j + 1, rfl, by omega, by go_num, REL.out, rfl⟩
        · have hjl : j = l.length := by omega
          subst hjl
          have e2 : decide ((l.length : Int) ≤ 20) = v := by
            rw [Bool.eq_iff_iff, decide_eq_true_eq, HV.out]
            constructor
            · intro h; exact ⟨fun i hi => hq i hi, by omega⟩
            · rintro ⟨_, h⟩; omega
          have HE := Lib.hid e2
          clear hq e2
          go_wp2_with fail
          go_ret
          exact ⟨by rw [← HE.out]; rfl, rfl⟩
end Go.Proofs.YtdapnoocmpbijaaGreatDoor

/- The look at trees: what each part of it answers, for whatever tree; how kids are read. -/
namespace Go.Proofs.YtdapnoocmpbijaaGreatDoor
open Go.RowKit

/-- A kid lies at o in block kb, with these cells. -/
structure KidW (M B : Nat) (p : RT) (kb o : Nat) (kd : Int) (c : UInt8) (nm : List UInt8) (n : Nat) (fl : Bool) (ks : Value) (w : World) : Prop where
  lt : kb < B
  k0 : w.cell? ⟨kb, o, none⟩ = some (.int .i64 kd)
  k1 : w.cell? ⟨kb, o + 1, none⟩ = some (.int .u8 c.toNat)
  k2 : w.cell? ⟨kb, o + 2, none⟩ = some (.string (bs nm))
  k3 : w.cell? ⟨kb, o + 3, none⟩ = some (.int .u64 n)
  k4 : w.cell? ⟨kb, o + 4, none⟩ = some (.bool fl)
  k5 : w.cell? ⟨kb, o + 5, none⟩ = some ks
  tr : TreeAt M B w (rv kd c nm n fl ks) p

theorem KidW.keep {M B : Nat} {p : RT} {kb o : Nat} {kd : Int} {c : UInt8} {nm : List UInt8} {n : Nat} {fl : Bool} {ks : Value} {w w' : World} (h : KidW M B p kb o kd c nm n fl ks w) (hs : ∀ k, k < B → w'.heap[k]? = w.heap[k]?) : KidW M B p kb o kd c nm n fl ks w' := by
  have e : ∀ j, w'.cell? ⟨kb, j, none⟩ = w.cell? ⟨kb, j, none⟩ := fun j => by simp only [World.cell?, hs kb h.lt]
  exact ⟨h.lt, by rw [e]; exact h.k0, by rw [e]; exact h.k1, by rw [e]; exact h.k2, by rw [e]; exact h.k3, by rw [e]; exact h.k4, by rw [e]; exact h.k5, h.tr.mono (Nat.le_refl _) hs⟩

theorem TreeAt.inv {M N : Nat} {w : World} {v : Array Value} {t : RT} (h : TreeAt M N w v t) : ∃ (kd : Int) (c : UInt8) (nm : List UInt8) (n : Nat) (fl : Bool) (a : Option Addr) (m cap : Nat), v = rv kd c nm n fl (.slice a m cap) ∧ t.kd = kd ∧ t.nm = nm := by
  cases h with
  | mk kd c nm n fl a m cap V ks hn hk hc hnm hV hT => exact ⟨kd, c, nm, n, fl, a, m, cap, rfl, rfl, rfl⟩

/-- A kid of a tree. -/
theorem kid_of {M B : Nat} {w : World} {a : Option Addr} {m : Nat} {V : Nat → Array Value} {ks : List RT} (hk : ks.length = m) (hV : KidsIn B w a m V) (hT : ∀ i (h : i < ks.length), TreeAt M B w (V i) ks[i]) (i : Nat) (h : i < ks.length) :
    ∃ kb off kd c nm n fl ka km kc, a = some ⟨kb, off, none⟩ ∧ KidW M B ks[i] kb (off + i * 6) kd c nm n fl (.slice ka km kc) w := by
  obtain ⟨kb, off, ha, hlt, hc⟩ := hV (by omega)
  obtain ⟨kd, c, nm, n, fl, ka, km, kc, e, _⟩ := (hT i h).inv
  have hci := (hc i (by omega)).2
  rw [e] at hci
  have ht := hT i h
  rw [e] at ht
  exact ⟨kb, off, kd, c, nm, n, fl, ka, km, kc, ha, hlt, hci 0 (by decide), hci 1 (by decide), hci 2 (by decide), hci 3 (by decide), hci 4 (by decide), hci 5 (by decide), ht⟩

/-- A part of the look has answered: yes only if Q, and then n pieces fewer are left. -/
def LkP (Q : Prop) (n left B b : Nat) (w : World) (e : Ending) (w' : World) : Prop := ∃ (bl : Bool) (l : Int), e = .returned (.bool bl) ∧ (bl = true → Q ∧ n ≤ left ∧ l = (left : Int) - n) ∧ Lk b l w' ∧ KeptM ML B w w'
theorem LkP.no {Q : Prop} {n left B b : Nat} {w w' : World} {l : Int} (h2 : Lk b l w') (h3 : KeptM ML B w w') : LkP Q n left B b w (.returned (.bool false)) w' := ⟨false, l, rfl, (fun h => by cases h), h2, h3⟩
theorem LkP.yes {Q : Prop} {n left B b : Nat} {w w' : World} (hq : Q) (hn : n ≤ left) (h2 : Lk b ((left : Int) - n) w') (h3 : KeptM ML B w w') : LkP Q n left B b w (.returned (.bool true)) w' := ⟨true, _, rfl, fun _ => ⟨hq, hn, rfl⟩, h2, h3⟩
theorem LkP.imp {Q Q' : Prop} {n n' left B b : Nat} {w w0 : World} {e : Ending} {w' : World} (h : LkP Q n left B b w e w') (hq : Q → Q') (hn : n = n') (k : KeptM ML B w0 w) : LkP Q' n' left B b w0 e w' := by
  obtain ⟨bl, l, h1, h2, h3, h4⟩ := h
  subst hn
  exact ⟨bl, l, h1, fun hb => ⟨hq (h2 hb).1, (h2 hb).2⟩, h3, k.trans h4⟩

/-- piece, at a tree. -/
def PieceC (t : RT) : Prop := ∀ (M B b want deep bound left : Nat) (w : World) (kd : Int) (c : UInt8) (nm : List UInt8) (n : Nat) (fl : Bool) (ks : Value), M ≤ 2147483647 → TreeAt M B w (rv kd c nm n fl ks) t → Tabs B w → B ≤ b → B ≤ w.heap.size → Lk b left w → left ≤ 300 → want ≤ 5 → deep ≤ 24 → bound ≤ 20 →
  Calls Tryz.prog 27 #[.pointer (some ⟨b, 0, none⟩), .agg (rv kd c nm n fl ks), .int .i64 want, .int .i64 deep, .int .i64 bound] w (LkP (Rt bound t ∧ fitsK t.kd want) (size t) left B b w)

theorem KeptM.same {M : List TypeId} {B : Nat} {w w' : World} (h : KeptM M B w w') (hB : B ≤ w.heap.size) : ∀ k, k < B → w'.heap[k]? = w.heap[k]? := fun k hk => h.block k (by omega) (.inl hk)
theorem KidW.piece {M B b : Nat} {p : RT} {kb o : Nat} {kd : Int} {c : UInt8} {nm : List UInt8} {n : Nat} {fl : Bool} {ks : Value} {w : World} (h : KidW M B p kb o kd c nm n fl ks w) (hp : PieceC p) (hM : M ≤ 2147483647) (ht : Tabs B w) (hB : B ≤ b) (hw : B ≤ w.heap.size) {left want deep bound : Nat} (hl : Lk b left w) (h1 : left ≤ 300)
    (h2 : want ≤ 5) (h3 : deep ≤ 24) (h4 : bound ≤ 20) :
    Calls Tryz.prog 27 #[.pointer (some ⟨b, 0, none⟩), .agg (rv kd c nm n fl ks), .int .i64 want, .int .i64 deep, .int .i64 bound] w (LkP (Rt bound p ∧ fitsK p.kd want) (size p) left B b w) :=
  hp M B b want deep bound left w kd c nm n fl ks hM h.tr ht hB hw hl h1 h2 h3 h4

/-- The state of a look within a part that began in w0. -/
structure LkS (M B b : Nat) (w0 : World) (l : Int) (w : World) : Prop where
  look : Lk b l w
  kept : KeptM ML B w0 w
  tabs : Tabs B w
  hw : B ≤ w.heap.size
theorem LkS.alloc {M B b : Nat} {w0 w : World} {l : Int} (h : LkS M B b w0 l w) (o : Obj) : LkS M B b w0 l (w.alloc o) :=
  ⟨h.look.alloc o, h.kept.alloc o, h.tabs.same fun k hk => Below.heap_alloc _ _ _ (by have := h.hw; omega), by have := h.hw; simp; omega⟩
theorem LkS.step {M B b : Nat} {w0 w w' : World} {l l' : Int} (h : LkS M B b w0 l w) (k : KeptM ML B w w') (hl : Lk b l' w') : LkS M B b w0 l' w' :=
  ⟨hl, h.kept.trans k, h.tabs.same (k.same h.hw), Nat.le_trans h.hw k.size⟩
theorem LkS.same {M B b : Nat} {w0 w : World} {l : Int} (h : LkS M B b w0 l w) (hB : B ≤ w0.heap.size) : ∀ k, k < B → w.heap[k]? = w0.heap[k]? := h.kept.same hB

/-- ... with the tree's own box. -/
structure LkX (M B b : Nat) (cs : Array Value) (w0 : World) (l : Int) (w : World) : Prop where
  base : LkS M B b w0 l w
  box : w.heap[w0.heap.size]? = some (.cells cs tRu (0, 0))
theorem tree_new' (w : World) (cs : Array Value) (T : TypeId) : (w.alloc (.cells cs T)).heap[w.heap.size]? = some (.cells cs T (0, 0)) := heap_alloc_new w _
theorem LkX.start {M B b : Nat} {w : World} {l : Int} (cs : Array Value) (hl : Lk b l w) (ht : Tabs B w) (hw : B ≤ w.heap.size) : LkX M B b cs w l (w.alloc (.cells cs tRu)) :=
  ⟨(LkS.mk hl (KeptM.refl w) ht hw : LkS M B b w l w).alloc _, tree_new' w cs tRu⟩
theorem LkX.lt {M B b : Nat} {cs : Array Value} {w0 w : World} {l : Int} (h : LkX M B b cs w0 l w) : w0.heap.size < w.heap.size := (Array.getElem?_eq_some_iff.1 h.box).1
theorem LkX.step {M B b : Nat} {cs : Array Value} {w0 w w' : World} {l l' : Int} (h : LkX M B b cs w0 l w) (k : KeptM ML B w w') (hl : Lk b l' w') : LkX M B b cs w0 l' w' :=
  ⟨h.base.step k hl, (k.block _ h.lt (.inr fun t ht => by rw [h.box]; simp [kindOf] at ht ⊢; subst ht; decide)).trans h.box⟩
theorem LkX.below {M B b : Nat} {cs : Array Value} {w0 w w' : World} {l : Int} (h : LkX M B b cs w0 l w) (k : Below w.heap.size w w') : LkX M B b cs w0 l w' :=
  h.step (KeptM.of_below k) ((k.block _ h.base.look.lt).trans h.base.look)
theorem LkX.alloc {M B b : Nat} {cs : Array Value} {w0 w : World} {l : Int} (h : LkX M B b cs w0 l w) (o : Obj) : LkX M B b cs w0 l (w.alloc o) :=
  ⟨h.base.alloc o, (Below.heap_alloc _ _ _ h.lt).trans h.box⟩
theorem LkX.cells {M B b : Nat} {kd : Int} {c : UInt8} {nm : List UInt8} {n : Nat} {fl : Bool} {ks : Value} {w0 w : World} {l : Int} (h : LkX M B b (rv kd c nm n fl ks) w0 l w) :
    w.cell? ⟨w0.heap.size, 0, none⟩ = some (.int .i64 kd) ∧ w.cell? ⟨w0.heap.size, 1, none⟩ = some (.int .u8 c.toNat) ∧ w.cell? ⟨w0.heap.size, 2, none⟩ = some (.string (bs nm)) ∧ w.cell? ⟨w0.heap.size, 3, none⟩ = some (.int .u64 n) ∧
      w.cell? ⟨w0.heap.size, 4, none⟩ = some (.bool fl) ∧ w.cell? ⟨w0.heap.size, 5, none⟩ = some ks := by
  refine ⟨?_, ?_, ?_, ?_, ?_, ?_⟩ <;> (rw [cellAt h.box]; rfl)
theorem LkX.same {M B b : Nat} {cs : Array Value} {w0 w : World} {l : Int} (h : LkX M B b cs w0 l w) (hB : B ≤ w0.heap.size) : ∀ k, k < B → w.heap[k]? = w0.heap[k]? := h.base.same hB
theorem LkX.cast {M B b : Nat} {cs : Array Value} {w0 w : World} {l l' : Int} (h : LkX M B b cs w0 l w) (e : l = l') : LkX M B b cs w0 l' w := e ▸ h
/-- A kid's cells, wherever the look goes on. -/
theorem KidW.cells {M B b : Nat} {cs : Array Value} {w0 : World} {p : RT} {kb o : Nat} {kd : Int} {c : UInt8} {nm : List UInt8} {n : Nat} {fl : Bool} {ks : Value} (K : KidW M B p kb o kd c nm n fl ks w0) (hw : B ≤ w0.heap.size) {w : World} {l : Int} (h : LkX M B b cs w0 l w) :
    w.cell? ⟨kb, o, none⟩ = some (.int .i64 kd) ∧ w.cell? ⟨kb, o + 1, none⟩ = some (.int .u8 c.toNat) ∧ w.cell? ⟨kb, o + 2, none⟩ = some (.string (bs nm)) ∧ w.cell? ⟨kb, o + 3, none⟩ = some (.int .u64 n) ∧
      w.cell? ⟨kb, o + 4, none⟩ = some (.bool fl) ∧ w.cell? ⟨kb, o + 5, none⟩ = some ks := by
  have K := K.keep (h.same hw)
  exact ⟨K.k0, K.k1, K.k2, K.k3, K.k4, K.k5⟩
/-- piece at a kid, wherever the look goes on. -/
theorem KidW.call {M B b : Nat} {cs : Array Value} {w0 : World} {p : RT} {kb o : Nat} {kd : Int} {c : UInt8} {nm : List UInt8} {n : Nat} {fl : Bool} {ks : Value} (K : KidW M B p kb o kd c nm n fl ks w0) (hw : B ≤ w0.heap.size) (hp : PieceC p) (hM : M ≤ 2147483647) (hB : B ≤ b)
    {want deep bound : Nat} (h2 : want ≤ 5) (h3 : deep ≤ 24) (h4 : bound ≤ 20) (w : World) (l : Nat) (h : LkX M B b cs w0 l w) (hl : l ≤ 300) :
    Calls Tryz.prog 27 #[.pointer (some ⟨b, 0, none⟩), .agg (rv kd c nm n fl ks), .int .i64 want, .int .i64 deep, .int .i64 bound] w (LkP (Rt bound p ∧ fitsK p.kd want) (size p) l B b w) :=
  (K.keep (h.same hw)).piece hp hM h.base.tabs hB h.base.hw h.base.look hl h2 h3 h4
theorem LkP.fin {Q Q' : Prop} {n n' left l0 B b : Nat} {w0 w : World} {e : Ending} {w' : World} (h : LkP Q' n' l0 B b w e w') (hq : Q' → Q ∧ n' + (left - l0) = n ∧ l0 ≤ left) (k : KeptM ML B w0 w) : LkP Q n left B b w0 e w' := by
  obtain ⟨bl, l, h1, h2, h3, h4⟩ := h
  refine ⟨bl, l, h1, fun hb => ?_, h3, k.trans h4⟩
  obtain ⟨h5, h6, h7⟩ := h2 hb
  obtain ⟨h8, h9, h10⟩ := hq h5
  exact ⟨h8, by omega, by omega⟩
/-- ... with another tree's box behind it. -/
structure LkY (M B b : Nat) (cs cs2 : Array Value) (w0 : World) (l : Int) (w : World) : Prop where
  base : LkX M B b cs w0 l w
  box2 : w.heap[w0.heap.size + 1]? = some (.cells cs2 tRu (0, 0))
theorem LkY.start {M B b : Nat} {cs : Array Value} {w : World} {l : Int} (h : LkX M B b cs w l (w.alloc (.cells cs tRu))) (cs2 : Array Value) : LkY M B b cs cs2 w l ((w.alloc (.cells cs tRu)).alloc (.cells cs2 tRu)) :=
  ⟨h.alloc _, by have := tree_new' (w.alloc (.cells cs tRu)) cs2 tRu; simpa using this⟩
theorem LkY.lt {M B b : Nat} {cs cs2 : Array Value} {w0 w : World} {l : Int} (h : LkY M B b cs cs2 w0 l w) : w0.heap.size + 1 < w.heap.size := (Array.getElem?_eq_some_iff.1 h.box2).1
theorem LkY.step {M B b : Nat} {cs cs2 : Array Value} {w0 w w' : World} {l l' : Int} (h : LkY M B b cs cs2 w0 l w) (k : KeptM ML B w w') (hl : Lk b l' w') : LkY M B b cs cs2 w0 l' w' :=
  ⟨h.base.step k hl, (k.block _ h.lt (.inr fun t ht => by rw [h.box2]; simp [kindOf] at ht ⊢; subst ht; decide)).trans h.box2⟩
theorem LkY.below {M B b : Nat} {cs cs2 : Array Value} {w0 w w' : World} {l : Int} (h : LkY M B b cs cs2 w0 l w) (k : Below w.heap.size w w') : LkY M B b cs cs2 w0 l w' :=
  ⟨h.base.below k, (k.block _ h.lt).trans h.box2⟩
theorem LkY.cast {M B b : Nat} {cs cs2 : Array Value} {w0 w : World} {l l' : Int} (h : LkY M B b cs cs2 w0 l w) (e : l = l') : LkY M B b cs cs2 w0 l' w := e ▸ h
theorem LkY.cells2 {M B b : Nat} {cs : Array Value} {kd : Int} {c : UInt8} {nm : List UInt8} {n : Nat} {fl : Bool} {ks : Value} {w0 w : World} {l : Int} (h : LkY M B b cs (rv kd c nm n fl ks) w0 l w) :
    w.cell? ⟨w0.heap.size + 1, 0, none⟩ = some (.int .i64 kd) ∧ w.cell? ⟨w0.heap.size + 1, 1, none⟩ = some (.int .u8 c.toNat) ∧ w.cell? ⟨w0.heap.size + 1, 2, none⟩ = some (.string (bs nm)) ∧ w.cell? ⟨w0.heap.size + 1, 3, none⟩ = some (.int .u64 n) ∧
      w.cell? ⟨w0.heap.size + 1, 4, none⟩ = some (.bool fl) ∧ w.cell? ⟨w0.heap.size + 1, 5, none⟩ = some ks := by
  refine ⟨?_, ?_, ?_, ?_, ?_, ?_⟩ <;> (rw [cellAt h.box2]; rfl)
theorem TreeAt.shape {M N : Nat} {w : World} {kd : Int} {c : UInt8} {nm : List UInt8} {n : Nat} {fl : Bool} {a : Option Addr} {m cap : Nat} {t : RT} (h : TreeAt M N w (rv kd c nm n fl (.slice a m cap)) t) : t.kd = kd ∧ t.ks.length = m := by
  generalize hv : rv kd c nm n fl (.slice a m cap) = v at h
  cases h with
  | mk kd' c' nm' n' fl' a' m' cap' V ks hn hk hc hnm hV hT =>
    have h0 := congrArg (fun x => x[0]?) hv
    have h5 := congrArg (fun x => x[5]?) hv
    simp at h0 h5
    exact ⟨h0.symm, by rw [h5.2.1]; exact hk⟩
theorem LkP.no' {Q : Prop} {n left B b : Nat} {cs : Array Value} {M : Nat} {w0 w : World} {l : Int} (h : LkX M B b cs w0 l w) : LkP Q n left B b w0 (.returned (.bool false)) w := LkP.no h.base.look h.base.kept
end Go.Proofs.YtdapnoocmpbijaaGreatDoor

/- What the writer makes of trees; lists of pieces; arguments. -/
namespace Go.Proofs.YtdapnoocmpbijaaGreatDoor
open Go.RowKit

/-- A tree, written: as a piece, as an argument; several. -/
def WR.tree (r : WR) (t : RT) : WR := ⟨r.out ++ enc idW t, r.plain, emp t, r.bound, r.bounds ++ bnds idW r.out.length r.bound t, r.cnt + size t⟩
def WR.argu (r : WR) (t : RT) : WR := ⟨r.out ++ (argMark t.kd ++ enc idW t), r.plain, emp t, r.bound, r.bounds ++ bnds idW (r.out.length + (argMark t.kd).length) r.bound t, r.cnt + size t⟩
def WR.trees (r : WR) (ts : List RT) : WR := ts.foldl WR.tree r
def WR.argus (r : WR) (ts : List RT) : WR := ts.foldl WR.argu r
theorem WR.trees_eq (ts : List RT) : ∀ r : WR, r.trees ts = ⟨r.out ++ encs idW ts, r.plain, if ts = [] then r.empty else empL ts, r.bound, r.bounds ++ bndsL idW r.out.length r.bound ts, r.cnt + sizes ts⟩ := by
  induction ts with
  | nil => intro r; simp [WR.trees, encs, bndsL, sizes]
  | cons t ts ih =>
    intro r
    show WR.trees (r.tree t) ts = _
    rw [ih]
    cases ts with
    | nil => simp [WR.tree, encs, bndsL, sizes, empL]
    | cons u us => simp [WR.tree, encs, bndsL, sizes, empL, Nat.add_assoc]
theorem WR.argus_eq (ts : List RT) : ∀ r : WR, r.argus ts = ⟨r.out ++ encsA idW ts, r.plain, if ts = [] then r.empty else empL ts, r.bound, r.bounds ++ bndsA idW r.out.length r.bound ts, r.cnt + sizes ts⟩ := by
  induction ts with
  | nil => intro r; simp [WR.argus, encsA, bndsA, sizes]
  | cons t ts ih =>
    intro r
    show WR.argus (r.argu t) ts = _
    rw [ih]
    cases ts with
    | nil => simp [WR.argu, encsA, bndsA, sizes, empL]
    | cons u us => simp [WR.argu, encsA, bndsA, sizes, empL, Nat.add_assoc]
/-- A letter needs nothing between. -/
theorem WR.put_let (r : WR) {c : UInt8} {l : List UInt8} (h : letHd c) : r.put (c :: l) = { r with out := r.out ++ (c :: l), empty := false } := by
  have hs : startsDU (c :: l) = false := by unfold letHd at h; simp [startsDU]; omega
  unfold WR.put
  rw [if_neg (by simp)]
  simp [sepOf, hs]
theorem Wr.mono {B b : Nat} {r : WR} {w : World} (h : Wr B b r w) {n : Nat} (hn : r.cnt ≤ n) : Wr B b { r with cnt := n } w := by
  obtain ⟨vo, vt, vm, vb, ts, ms, h⟩ := h
  exact ⟨vo, vt, vm, vb, ts, ms, h.hB, h.hw, h.tab, h.heap, h.out, h.texts, h.marks, h.bds, Nat.le_trans h.nt hn, Nat.le_trans h.nm hn, h.nb, h.bd⟩

/-- The writer within a part that began in w0. -/
structure WX (B b : Nat) (cs : Array Value) (w0 : World) (r : WR) (w : World) : Prop where
  wr : Wr B b r w
  kept : KeptM MW B w0 w
  box : w.heap[w0.heap.size]? = some (.cells cs tRu (0, 0))
theorem WX.start {B b : Nat} {w : World} {r : WR} (cs : Array Value) (h : Wr B b r w) : WX B b cs w r (w.alloc (.cells cs tRu)) := ⟨h.alloc _, (KeptM.refl w).alloc _, tree_new w cs⟩
theorem WX.step {B b : Nat} {cs : Array Value} {w0 w w' : World} {r r' : WR} (h : WX B b cs w0 r w) (k : KeptM MW B w w') (hw : Wr B b r' w') : WX B b cs w0 r' w' := ⟨hw, h.kept.trans k, k.tree h.box⟩
theorem WX.below {B b : Nat} {cs : Array Value} {w0 w w' : World} {r : WR} (h : WX B b cs w0 r w) (k : Below w.heap.size w w') : WX B b cs w0 r w' := h.step (KeptM.of_below k) (h.wr.below k)
theorem WX.drewN {B b : Nat} {cs : Array Value} {w0 w : World} {r : WR} (h : WX B b cs w0 r w) (q : Nat) : WX B b cs w0 r (w.drewN q) := ⟨h.wr.drewN q, h.kept.drewN q, h.box⟩
theorem WX.alloc {B b : Nat} {cs : Array Value} {w0 w : World} {r : WR} (h : WX B b cs w0 r w) (o : Obj) : WX B b cs w0 r (w.alloc o) := ⟨h.wr.alloc o, h.kept.alloc o, (Below.heap_alloc _ _ _ (Array.getElem?_eq_some_iff.1 h.box).1).trans h.box⟩
theorem WX.cells {B b : Nat} {kd : Int} {c : UInt8} {nm : List UInt8} {n : Nat} {fl : Bool} {ks : Value} {w0 w : World} {r : WR} (h : WX B b (rv kd c nm n fl ks) w0 r w) :
    w.cell? ⟨w0.heap.size, 0, none⟩ = some (.int .i64 kd) ∧ w.cell? ⟨w0.heap.size, 1, none⟩ = some (.int .u8 c.toNat) ∧ w.cell? ⟨w0.heap.size, 2, none⟩ = some (.string (bs nm)) ∧ w.cell? ⟨w0.heap.size, 3, none⟩ = some (.int .u64 n) ∧
      w.cell? ⟨w0.heap.size, 4, none⟩ = some (.bool fl) ∧ w.cell? ⟨w0.heap.size, 5, none⟩ = some ks := by
  refine ⟨?_, ?_, ?_, ?_, ?_, ?_⟩ <;> (rw [cellAt h.box]; rfl)
theorem WX.same {B b : Nat} {cs : Array Value} {w0 w : World} {r : WR} (h : WX B b cs w0 r w) (hB : B ≤ w0.heap.size) : ∀ k, k < B → w.heap[k]? = w0.heap[k]? := h.kept.same hB
theorem WX.cast {B b : Nat} {cs : Array Value} {w0 w : World} {r r' : WR} (h : WX B b cs w0 r w) (e : r = r') : WX B b cs w0 r' w := e ▸ h

/-- It writes: r becomes r'. -/
def WrP (B b : Nat) (r' : WR) (w : World) (e : Ending) (w' : World) : Prop := e = .returned (.tuple #[]) ∧ Wr B b r' w' ∧ KeptM MW B w w'
theorem WX.post {B b : Nat} {cs : Array Value} {w0 w : World} {r r' : WR} (h : WX B b cs w0 r w) (e : r = r') : WrP B b r' w0 (.returned (.tuple #[])) w := ⟨rfl, e ▸ h.wr, h.kept⟩

/-- Room for a tree. -/
def room (r : WR) (s : Nat) : Prop := r.out.length + 1200 * s ≤ 900000000 ∧ r.cnt + 1200 * s ≤ 900000000
/-- piece, at a tree. -/
def PieceW (t : RT) : Prop := ∀ (M B b : Nat) (r : WR) (w : World) (kd : Int) (c : UInt8) (nm : List UInt8) (n : Nat) (fl : Bool) (kv : Value), TreeAt M B w (rv kd c nm n fl kv) t → Wr B b r w → room r (size t) →
  Calls Tryz.prog 23 #[.pointer (some ⟨b, 0, none⟩), .agg (rv kd c nm n fl kv)] w (WrP B b (r.tree t) w)
theorem KidW.wcells {M B b : Nat} {cs : Array Value} {w0 : World} {p : RT} {kb o : Nat} {kd : Int} {c : UInt8} {nm : List UInt8} {n : Nat} {fl : Bool} {ks : Value} (K : KidW M B p kb o kd c nm n fl ks w0) (hw : B ≤ w0.heap.size) {w : World} {r : WR} (h : WX B b cs w0 r w) :
    w.cell? ⟨kb, o, none⟩ = some (.int .i64 kd) ∧ w.cell? ⟨kb, o + 1, none⟩ = some (.int .u8 c.toNat) ∧ w.cell? ⟨kb, o + 2, none⟩ = some (.string (bs nm)) ∧ w.cell? ⟨kb, o + 3, none⟩ = some (.int .u64 n) ∧
      w.cell? ⟨kb, o + 4, none⟩ = some (.bool fl) ∧ w.cell? ⟨kb, o + 5, none⟩ = some ks := by
  have K := K.keep (h.same hw)
  exact ⟨K.k0, K.k1, K.k2, K.k3, K.k4, K.k5⟩
theorem KidW.wcall {M B b : Nat} {cs : Array Value} {w0 : World} {p : RT} {kb o : Nat} {kd : Int} {c : UInt8} {nm : List UInt8} {n : Nat} {fl : Bool} {ks : Value} (K : KidW M B p kb o kd c nm n fl ks w0) (hw : B ≤ w0.heap.size) (hp : PieceW p) (w : World) (r : WR) (h : WX B b cs w0 r w) (hr : room r (size p)) :
    Calls Tryz.prog 23 #[.pointer (some ⟨b, 0, none⟩), .agg (rv kd c nm n fl ks)] w (WrP B b (r.tree p) w) :=
  hp M B b r w kd c nm n fl ks (K.keep (h.same hw)).tr h.wr hr
theorem room_enc {r : WR} {t : RT} {n : Nat} (h : room r (size t + n)) (he : (enc idW t).length ≤ 1100 * size t) : room (r.tree t) n := by
  unfold room WR.tree at *
  simp only [List.length_append]
  omega
theorem encs_take {ts : List RT} {j : Nat} (hj : j < ts.length) (r : WR) : r.trees (ts.take (j + 1)) = (r.trees (ts.take j)).tree ts[j] := by
  rw [List.take_succ_eq_append_getElem hj, WR.trees, List.foldl_append]; rfl
theorem room_encs {ts : List RT} {r : WR} (h : room r (sizes ts)) (he : ∀ t ∈ ts, (enc idW t).length ≤ 1100 * size t) (j : Nat) (hj : j < ts.length) : room (r.trees (ts.take j)) (size ts[j]) := by
  have hl : ∀ us : List RT, (∀ t ∈ us, (enc idW t).length ≤ 1100 * size t) → (encs idW us).length ≤ 1100 * sizes us := by
    intro us hu
    induction us with
    | nil => simp [encs]
    | cons u us ih =>
      have h1 := hu u (by simp)
      have h2 := ih fun t ht => hu t (List.mem_cons_of_mem _ ht)
      simp only [encs, sizes, List.length_append]; omega
  have h1 := hl (ts.take j) fun t ht => he t (List.mem_of_mem_take ht)
  have h2 : sizes ts = sizes (ts.take j) + (size ts[j] + sizes (ts.drop (j + 1))) := by
    conv => lhs; rw [← List.take_append_drop j ts, sizes_append, List.drop_eq_getElem_cons hj, sizes]
  rw [WR.trees_eq]
  unfold room at *
  simp only [List.length_append]
  omega

set_option maxHeartbeats 2000000 in
set_option maxRecDepth 100000 in
theorem pieces_wr (M B b : Nat) (r : WR) (w : World) (a : Option Addr) (m cap : Nat) (V : Nat → Array Value) (ks : List RT) (hk : ks.length = m) (hV : KidsIn B w a m V) (hT : ∀ i (h : i < ks.length), TreeAt M B w (V i) ks[i]) (hP : ∀ x ∈ ks, PieceW x)
    (he : ∀ x ∈ ks, (enc idW x).length ≤ 1100 * size x) (hm : m ≤ 1000000000) (h : Wr B b r w) (hr : room r (sizes ks)) :
    Calls Tryz.prog 63 #[.pointer (some ⟨b, 0, none⟩), .slice a m cap] w (WrP B b (r.trees ks) w) := by
  have hw := h.hB
  have H := Lib.hid h
  have HK := Lib.hid (fun i h => kid_of hk hV hT i h)
  have HR := Lib.hid (fun j hj => room_encs hr he j hj)
  have hmx : m ≤ 9223372036854775807 := by omega
  clear hV hT h hr
  go_enter Tryz.func63, Tryz.ntmps63
  go_wp2_with fail
  go_loopg [5, 8] m (fun n _ i wr => ∃ j : Nat, n = m - j ∧ j ≤ m ∧ i = .int .i64 j ∧ Wr B b (r.trees (ks.take j)) wr ∧ KeptM MW B w wr)
  case atStart => exact ⟨0, by omega, Nat.zero_le _, rfl, by simpa [WR.trees] using H.out, KeptM.refl _⟩
  case round =>
    obtain ⟨j, rfl, hj, rfl, hW, kk⟩ := hrel
    by_cases hlt : j < m
    · obtain ⟨kb, off, kd1, c1, nm1, n1, fl1, ka1, km1, kc1, rfl, K⟩ := HK.out j (by omega)
      have K1 := K.keep (kk.same hw)
      have hcall := Lib.hid (hP _ (List.getElem_mem (by omega : j < ks.length)) M B b (r.trees (ks.take j)) (wr.alloc (.cells (rv kd1 c1 nm1 n1 fl1 (.slice ka1 km1 kc1)) tRu)) kd1 c1 nm1 n1 fl1 (.slice ka1 km1 kc1)
        (K1.tr.mono (Nat.le_refl _) (fun k hk => Below.heap_alloc _ _ _ (by have := hW.hB; omega))) (hW.alloc _) (HR.out j (by omega)))
      obtain ⟨_, k0, k1, k2, k3, k4, k5, _⟩ := K1
      have KK := Lib.hid (kk.alloc (.cells (rv kd1 c1 nm1 n1 fl1 (.slice ka1 km1 kc1)) tRu))
      clear K hW kk
      go_wp2_with fail
      refine hcall.out.mono ?_
      rintro e w1 ⟨rfl, h1, k1⟩
      have k2 := KK.out.trans k1
      have HT := Lib.hid (h1.cast (encs_take (by omega) r).symm)
      clear k1 h1 hcall
      go_wp2_with fail
      go_roundg (m - (j + 1))
      case measure => omega
      case rel => exact ⟨j + 1, rfl, by omega, by go_num, HT.out, k2⟩
    · have hjm : j = m := by omega
      subst hjm
      have e3 : ks.take j = ks := by rw [← hk]; exact List.take_length
      rw [e3] at hW
      go_wp2_with fail
      go_end0
      exact ⟨rfl, hW, kk⟩
end Go.Proofs.YtdapnoocmpbijaaGreatDoor

