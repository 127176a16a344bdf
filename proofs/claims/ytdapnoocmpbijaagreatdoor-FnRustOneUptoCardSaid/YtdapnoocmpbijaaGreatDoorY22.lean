/- isRustName. -/
import Derived.Test.YtdapnoocmpbijaaGreatDoorY19
import Derived.Test.YtdapnoocmpbijaaGreatDoorY20
import Derived.Test.YtdapnoocmpbijaaGreatDoorY21
import Derived.Test.YtdapnoocmpbijaaGreatDoorY18
import Derived.Test.YtdapnoocmpbijaaGreatDoorY17
import Derived.Test.YtdapnoocmpbijaaGreatDoorY04
import Derived.Lib.ConvBytes
import Derived.Deep.RegionLaw
import Derived.BigRegion
import Derived.Deep.AppendLies
import Derived.ProofKit
import Derived.OpenShut
import Derived.Deep.Slices
namespace Go.Proofs.YtdapnoocmpbijaaGreatDoor
open Go.RowKit

theorem own_slice {w : World} {B : Nat} {e : TypeId} {size n : Nat} {v : Value} {xs : List Value} (h : w.ownsRow B e size v n xs) : ∃ a cap, v = .slice a n cap ∧ (0 < n → ∃ g, a = some ⟨g, 0, none⟩) := by
  rcases h.2 with ⟨hv, h0⟩ | ⟨g, cap, cur, hv, _⟩
  · exact ⟨none, 0, by rw [hv, h0], fun h => by omega⟩
  · exact ⟨_, _, hv, fun _ => ⟨g, rfl⟩⟩

theorem isIdB_N (n : Nat) (h : n < 128) : isIdB (UInt8.ofNat n) = isIdN n := by
  unfold isIdB isIdN
  rw [UInt8.toNat_ofNat_of_lt' (by show n < 256; omega)]

set_option maxHeartbeats 4000000 in
set_option maxRecDepth 100000 in
theorem name_any (l : List UInt8) (hl : l.length ≤ 2147483647) (B : Nat) (w : World) (hT : Tabs B w) :
    Calls Tryz.prog 55 #[.string (bs l)] w fun e w' => e = .returned (.bool (nameB l)) ∧ Below w.heap.size w w' := by
  have HP := Lib.hid (fun w => plainName_any l (by omega) w)
  have HC := Lib.hid (chars_any l hl B w hT)
  have HB := Lib.hid (fun c w => rustByte_any c w)
  obtain ⟨v, hv⟩ : ∃ v, nameB l = v := ⟨_, rfl⟩
  rw [hv]
  unfold nameB at hv
  cases hp : (l.all isIdB && !l.isEmpty) with
  | true =>
    rw [if_pos hp] at hv
    have hv' : decide ((l.length : Int) ≤ 1000) = v := by rw [← hv, decide_eq_decide]; omega
    have HV := Lib.hid hv'
    clear hv hv' HC
    go_enter Tryz.func55, Tryz.ntmps55
    go_wp2_with (go_at_call 74; refine (HP.out _).mono ?_; rintro e w1 ⟨rfl, rfl⟩; rw [hp])
    go_ret
    exact ⟨congrArg (fun x => Ending.returned (.bool x)) HV.out, Below.refl _ _⟩
  | false =>
    rw [if_neg (by rw [hp]; decide)] at hv
    cases hval : Lib.validD l with
    | false =>
      have hv' : v = false := by rw [← hv, hval]; rfl
      subst hv'
      clear hv
      go_enter Tryz.func55, Tryz.ntmps55
      go_wp2_with (first
        | (go_at_call 74; refine (HP.out _).mono ?_; rintro e w1 ⟨rfl, rfl⟩; rw [hp])
        | (go_at_call 75; refine HC.out.mono ?_; rintro e w2 ⟨b2, hno, _⟩; obtain rfl := hno hval; clear hno))
      go_ret
      exact ⟨rfl, b2⟩
    | true =>
      rw [hval, Bool.true_and] at hv
      obtain ⟨L, hL⟩ : ∃ L, chars l = L := ⟨_, rfl⟩
      rw [hL] at hv HC
      by_cases h0 : L.length = 0
      · have hv' : v = false := by rw [← hv, h0]; rfl
        subst hv'
        clear hv
        go_enter Tryz.func55, Tryz.ntmps55
        go_wp2_with (first
          | (go_at_call 74; refine (HP.out _).mono ?_; rintro e w1 ⟨rfl, rfl⟩; rw [hp])
          | (go_at_call 75; refine HC.out.mono ?_; rintro e w2 ⟨b2, _, hyes⟩; obtain ⟨x, rfl, own⟩ := hyes hval; obtain ⟨xa, xc, rfl, _⟩ := own_slice own; clear hyes own; rw [h0]))
        go_ret
        exact ⟨rfl, b2⟩
      · have h0' : ((L.length : Int) == 0) = false := by rw [beq_eq_false_iff_ne]; omega
        by_cases h60 : L.length ≤ 60
        · have h60' : decide ((60 : Int) < (L.length : Int)) = false := by simp; omega
          have HB2 : Hid (∀ (n : Nat) (w : World), n < 128 → Calls Tryz.prog 76 #[.int .u8 n] w fun e w' => e = .returned (.bool (isIdN n)) ∧ w = w') := Lib.hid (by
            intro n w hn
            have := rustByte_any (UInt8.ofNat n) w
            rw [isIdB_N n hn, UInt8.toNat_ofNat_of_lt' (by show n < 256; omega)] at this
            exact this)
          have hv' : L.all charOk = v := by rw [← hv]; simp [h0, h60]
          have HV := Lib.hid hv'
          clear hv hv'
          go_enter Tryz.func55, Tryz.ntmps55
          go_wp2_with (first
            | (go_at_call 74; refine (HP.out _).mono ?_; rintro e w1 ⟨rfl, rfl⟩; rw [hp])
            | (go_at_call 75; refine HC.out.mono ?_; rintro e w2 ⟨b2, _, hyes⟩; obtain ⟨x, rfl, own⟩ := hyes hval; obtain ⟨xa, xc, rfl, hxa⟩ := own_slice own; clear hyes))
          obtain ⟨g, rfl⟩ := hxa (by omega)
          have HCL := Lib.hid (fun j (hj : j < L.length) => own.cells (g := g) rfl j (.int .i64 (L[j] : Nat)) (by simp [cv, hj]))
          clear own
          go_loopg [6, 31] L.length (fun n _ i wr => ∃ j : Nat, n = L.length - j ∧ j ≤ L.length ∧ i = .int .i64 j ∧ (∀ c ∈ L.take j, charOk c = true) ∧ wr = w2)
          case atStart => exact ⟨0, by omega, Nat.zero_le _, rfl, by simp, rfl⟩
          case round =>
            obtain ⟨j, rfl, hj, rfl, hq, rfl⟩ := hrel
            have HQ := Lib.hid hq
            clear hq
            by_cases hlt : j < L.length
            · have hcell := HCL.out j hlt
              have hin := List.getElem_mem hlt
              obtain ⟨c, hc⟩ : ∃ c, L[j] = c := ⟨_, rfl⟩
              rw [hc] at hcell hin
              have hcell' : wr.cell? ⟨g, j, none⟩ = some (.int .i64 (c : Int)) := by rw [Go.WideShapes.add_plain] at hcell; simpa using hcell
              clear hcell
              have REL : charOk c = true → ∀ x ∈ L.take (j + 1), charOk x = true := by
                intro hok x hx
                rw [List.take_succ_eq_append_getElem hlt] at hx
                rcases List.mem_append.1 hx with hx | hx
                · exact HQ.out x hx
                · simp at hx; subst hx; rw [hc]; exact hok
              have REL := Lib.hid REL
              by_cases h128 : c < 128
              · have h128' : decide ((c : Int) < 128) = true := by simp; omega
                cases hid : isIdN c with
                | false =>
                  have hv : v = false := by
                    rw [← HV.out]
                    exact List.all_eq_false.2 ⟨c, hin, by simp [charOk, hid]; omega⟩
                  subst hv
                  clear HQ REL hin hc
                  go_wp2_with (go_at_call 76; refine (HB2.out c _ h128).mono ?_; rintro e w3 ⟨rfl, rfl⟩; rw [hid])
                  go_ret
                  exact ⟨rfl, b2⟩
                | true =>
                  have hok : Hid (charOk c = true) := Lib.hid (by simp [charOk, hid])
                  clear HQ hin hc
                  go_wp2_with (go_at_call 76; refine (HB2.out c _ h128).mono ?_; rintro e w3 ⟨rfl, rfl⟩; rw [hid])
                  go_roundg (L.length - (j + 1))
                  case measure => omega
                  case rel => exact ⟨j + 1, rfl, by omega, by go_num, REL.out hok.out, rfl⟩
              · have h128' : decide ((c : Int) < 128) = false := by simp; omega
                have hok : Hid (charOk c = true) := Lib.hid (by simp [charOk]; omega)
                clear HQ hin hc
                go_wp2_with fail
                go_roundg (L.length - (j + 1))
                case measure => omega
                case rel => exact ⟨j + 1, rfl, by omega, by go_num, REL.out hok.out, rfl⟩
            · have hjl : j = L.length := by omega
              subst hjl
              have hq := HQ.out
              rw [List.take_length] at hq
              have hv : v = true := by rw [← HV.out]; exact List.all_eq_true.2 hq
              subst hv
              clear hq
              go_wp2_with fail
              go_ret
              exact ⟨rfl, b2⟩
        · have h60' : decide ((60 : Int) < (L.length : Int)) = true := by simp; omega
          have hv' : v = false := by rw [← hv]; simp [h60]
          subst hv'
          clear hv
          go_enter Tryz.func55, Tryz.ntmps55
          go_wp2_with (first
            | (go_at_call 74; refine (HP.out _).mono ?_; rintro e w1 ⟨rfl, rfl⟩; rw [hp])
            | (go_at_call 75; refine HC.out.mono ?_; rintro e w2 ⟨b2, _, hyes⟩; obtain ⟨x, rfl, own⟩ := hyes hval; obtain ⟨xa, xc, rfl, _⟩ := own_slice own; clear hyes own))
          go_ret
          exact ⟨rfl, b2⟩
end Go.Proofs.YtdapnoocmpbijaaGreatDoor

/- IdWritten. -/
namespace Go.Proofs.YtdapnoocmpbijaaGreatDoor
open Go.RowKit

set_option maxHeartbeats 4000000 in
set_option maxRecDepth 100000 in
/-- A name that may be written, written. -/
theorem written_any (l : List UInt8) (hl : nameB l = true) (B : Nat) (w : World) (hT : Tabs B w) (hB : B ≤ w.heap.size) :
    Calls Tryz.prog 67 #[.string (bs l)] w fun e w' => e = .returned (.string (bs (idW l))) ∧ Below w.heap.size w w' := by
  have hlen := name_len hl
  have hne := nameB_ne hl
  have ht0 : (bs l).toList.isEmpty = false := by rw [ByteArray.toList_eq]; cases l with | nil => exact absurd rfl hne | cons a b => rfl
  have HP := Lib.hid (fun w => idPlain_any l (by omega) w)
  have HT := Lib.hid hT
  rcases nameB_cases hl with ⟨_, hid, _, e⟩ | ⟨_, hv, hc60, hok, e⟩
  · have hall : l.all isIdB = true := List.all_eq_true.2 fun c hc => (isIdB_iff c).2 (hid c hc)
    have HC := Lib.hid (counted_any l (by omega) B w hT)
    rw [e]
    clear hid e hl hT
    go_enter Tryz.func67, Tryz.ntmps67
    go_wp2_with (first
      | (go_at_call 79; refine (HP.out _).mono ?_; rintro e w1 ⟨rfl, rfl⟩; rw [hall])
      | (go_at_call 80; refine HC.out.mono ?_; rintro e w1 ⟨rfl, b1⟩))
    go_ret
    exact ⟨rfl, b1⟩
  · have hall : l.all isIdB = false := by
      cases h : l.all isIdB with
      | false => rfl
      | true =>
        unfold idW at e
        rw [if_neg hne, if_pos h] at e
        obtain ⟨c, k, e1, hc⟩ := dec_head l.length
        unfold counted' at e
        rw [e1] at e
        simp at e
        unfold is10 at hc
        have := congrArg UInt8.toNat e.1
        simp at this
        omega
    obtain ⟨hpid, hpl, hback, _⟩ := puny_name hv hc60 hok
    have hsc := (chars_back l.length l (Nat.le_refl _) hv).2
    rw [e]
    have HCH := Lib.hid (chars_any l (by omega) B w hT)
    obtain ⟨L, hL⟩ : ∃ L, chars l = L := ⟨_, rfl⟩
    rw [hL] at hc60 hsc HCH hpl ⊢
    obtain ⟨pn, hpn⟩ : ∃ pn, punyOf L = pn := ⟨_, rfl⟩
    rw [hpn] at hpl ⊢
    have HPN := Lib.hid (fun g cap w' (hR : RowAt w' g L) => puny_any g cap L hc60 hsc w' hR)
    rw [hpn] at HPN
    have HC := Lib.hid (fun w' (hT : Tabs B w') => counted_any pn (by omega) B w' hT)
    have hcl := counted_len pn (by omega)
    obtain ⟨cn, hcn⟩ : ∃ cn, counted' pn = cn := ⟨_, rfl⟩
    rw [hcn] at HC hcl ⊢
    have e5 : (⟨#[117]⟩ : ByteArray) ++ bs cn = bs (117 :: cn) := bs_append [117] _
    have hl1 : ¬ 9223372036854775807 < 1 + cn.length := by omega
    have HV := Lib.hid hv
    have hL0 : 0 < L.length := by
      rw [← hL, chars_step l hne]; simp
    have HBW := Lib.hid hB
    clear hpid hback hok e hsc hL hpn hcn hl hv hT
    go_enter Tryz.func67, Tryz.ntmps67
    go_wp2_with (first
      | (go_at_call 79; refine (HP.out _).mono ?_; rintro e w1 ⟨rfl, rfl⟩; rw [hall])
      | (go_at_call 75; refine HCH.out.mono ?_; rintro e w1 ⟨b1, _, hyes⟩; obtain ⟨v, rfl, own⟩ := hyes HV.out; obtain ⟨xa, xc, rfl, hxa⟩ := own_slice own; obtain ⟨g, rfl⟩ := hxa hL0; have hrow := Lib.hid (RowAt.of_own own); clear hyes own)
      | (go_at_call 81; refine (HPN.out g xc _ hrow.out).mono ?_; rintro e w2 ⟨rfl, q, rfl⟩))
    have hT1 : Tabs B (w1.drewN q) := HT.out.same fun k hk => b1.block k (by have := HBW.out; omega)
    refine (HC.out _ hT1).mono ?_
    rintro e w3 ⟨rfl, b3⟩
    have b4 : Below w.heap.size w w3 := b1.trans ((show Below w1.heap.size w1 w3 from ⟨b3.os, b3.tape, b3.output, b3.size, b3.block⟩).mono b1.size)
    go_wp2_with fail
    go_ret
    exact ⟨congrArg (fun b => Ending.returned (.string b)) e5, b4⟩
end Go.Proofs.YtdapnoocmpbijaaGreatDoor

/- rustABI. -/
namespace Go.Proofs.YtdapnoocmpbijaaGreatDoor
open Go.RowKit

/-- Bytes in a row that was made out of a text: N cells, those of the text in front. -/
def RowB (w : World) (k N : Nat) (l : List UInt8) : Prop := ∃ C, w.heap[k]? = some (.cells C tB (N, N + 1)) ∧ C.size = N ∧ l.length ≤ N ∧ ∀ j (h : j < l.length), C[j]? = some (.int .u8 (l[j].toNat : Nat))
theorem RowB.cell {w : World} {k N : Nat} {l : List UInt8} (h : RowB w k N l) (j : Nat) (hj : j < l.length) : w.cell? ⟨k, j, none⟩ = some (.int .u8 (l[j].toNat : Nat)) := by
  obtain ⟨C, h1, _, _, h4⟩ := h
  rw [cellAt h1, h4 j hj]
theorem RowB.fz {w : World} {k N : Nat} {l : List UInt8} (h : RowB w k N l) (j : Nat) (hj : j < l.length) : w.frozen? ⟨k, j, none⟩ = false := by
  obtain ⟨C, h1, h2, h3, h4⟩ := h
  simp [World.frozen?, h1]
  omega
theorem RowB.set {w : World} {k N : Nat} {l : List UInt8} (h : RowB w k N l) (j : Nat) (c : UInt8) : RowB (w.setCell ⟨k, j, none⟩ (.int .u8 (c.toNat : Nat))) k N (l.set j c) := by
  obtain ⟨C, h1, h2, h3, h4⟩ := h
  refine ⟨_, setCell_heap h1 j _, by simpa using h2, by simpa using h3, fun i hi => ?_⟩
  rw [List.length_set] at hi
  rw [Array.getElem?_setIfInBounds]
  by_cases e : j = i
  · subst e
    simp; omega
  · rw [if_neg e, h4 i hi]
    simp [e]
theorem RowB.new (w : World) (l : List UInt8) : RowB (Lib.bytesWorld w tB (bs l)) w.heap.size (Lib.bytesCells w tB (bs l)).size l := by
  refine ⟨_, Lib.bytesWorld_at_new w tB (bs l), rfl, by simp [Lib.bytesCells], fun j hj => ?_⟩
  have hj' : j < (bs l).size := by simpa using hj
  have := Lib.bytesWorld_cell w tB (bs l) j hj'
  rw [cellAt (Lib.bytesWorld_at_new w tB (bs l))] at this
  rw [this]
  simp [hj]
theorem RowB.conv {w : World} {k N cap : Nat} {l : List UInt8} (h : RowB w k N l) : (convert 41 9 (.slice (some ⟨k, 0, none⟩) l.length cap)).run Tryz.prog w = .ok (.string (bs l)) w := by
  refine run_convert_bytes_back _ _ _ 5 _ cap l Tryz.underlying41 Tryz.underlying5 Tryz.underlying9 ?_
  intro j hj
  rw [Go.WideShapes.add_plain]
  simpa using h.cell j hj

/-- - is written as _. -/
def dash (c : UInt8) : UInt8 := if c = 45 then 95 else c
theorem bytesWorld_below (w : World) (s : ByteArray) : Below w.heap.size w (Lib.bytesWorld w tB s) :=
  ⟨by unfold Lib.bytesWorld World.freeze; rw [if_neg (by decide)]; rfl, by unfold Lib.bytesWorld World.freeze; rw [if_neg (by decide)]; rfl, by unfold Lib.bytesWorld World.freeze; rw [if_neg (by decide)]; rfl, by rw [Lib.bytesWorld_size]; omega, fun k hk => Lib.bytesWorld_at_old w tB s k hk⟩

set_option maxHeartbeats 4000000 in
set_option maxRecDepth 100000 in
theorem rustABI_any (l : List UInt8) (hl : abiB l = true) (h0 : l ≠ []) (hC : l ≠ [67]) (B : Nat) (w : World) (hT : Tabs B w) (hB : B ≤ w.heap.size) :
    Calls Tryz.prog 66 #[.string (bs l)] w fun e w' => e = .returned (.string (bs (idW (l.map dash)))) ∧ Below w.heap.size w w' := by
  obtain ⟨hnb, hlen⟩ := abi_map hl h0 hC
  have h67 : ((bs l).toList == [67]) = false := by rw [ByteArray.toList_eq, beq_eq_false_iff_ne]; exact hC
  have hcv := Lib.run_convert_string_bytes (P := Tryz.prog) w 9 41 tB (bs l) Tryz.underlying9 Tryz.underlying41 Tryz.underlying5
  have hrow := RowB.new w l
  have hbw := bytesWorld_below w (bs l)
  have hsz := Lib.bytesWorld_size w tB (bs l)
  rw [bs_size] at hcv
  generalize Lib.bytesWorld w tB (bs l) = W1 at hcv hrow hbw hsz
  generalize (Lib.bytesCells w tB (bs l)).size = N at hrow
  generalize grownCap w l.length 0 tB = cap at hcv
  have HR := Lib.hid hrow
  have HBW := Lib.hid hbw
  have HW := Lib.hid (fun w' (hT : Tabs B w') (hB : B ≤ w'.heap.size) => written_any (l.map dash) hnb B w' hT hB)
  have HT := Lib.hid hT
  have HB := Lib.hid hB
  clear hrow hbw hl hnb hT h0 hC hB
  go_enter Tryz.func66, Tryz.ntmps66
  go_wp2_with fail
  go_loopg [4, 5, 12] l.length (fun n _ _ i wr => ∃ j : Nat, n = l.length - j ∧ j ≤ l.length ∧ i = .int .i64 j ∧ RowB wr w.heap.size N ((l.take j).map dash ++ l.drop j) ∧ Below w.heap.size w wr)
  case atStart => exact ⟨0, by omega, Nat.zero_le _, rfl, by simpa using HR.out, HBW.out⟩
  case round =>
    obtain ⟨j, rfl, hj, rfl, hr, hb⟩ := hrel
    have hlenR : ((l.take j).map dash ++ l.drop j).length = l.length := by simp; omega
    by_cases hlt : j < l.length
    · have hcell := hr.cell j (by omega)
      have hfz := hr.fz j (by omega)
      have hget : ((l.take j).map dash ++ l.drop j)[j]'(by omega) = l[j] := by
        rw [List.getElem_append_right (by simp; omega)]
        simp [Nat.min_eq_left hj]
      rw [hget] at hcell
      have hnext : (l.take (j + 1)).map dash ++ l.drop (j + 1) = ((l.take j).map dash ++ l.drop j).set j (dash l[j]) := by
        rw [List.take_succ_eq_append_getElem hlt, List.map_append, List.set_append_right _ _ (by simp; omega)]
        simp [Nat.min_eq_left hj]
        rw [List.drop_eq_getElem_cons hlt]; rfl
      have hset := hr.set j (dash l[j])
      rw [← hnext] at hset
      obtain ⟨c, hc⟩ : ∃ c, l[j] = c := ⟨_, rfl⟩
      rw [hc] at hcell hset
      by_cases h45 : c = 45
      · subst h45
        have e1 : dash 45 = 95 := rfl
        rw [e1] at hset
        have HSET := Lib.hid hset
        have HB2 := Lib.hid (hb.setCell (p := ⟨w.heap.size, j, none⟩) (Nat.le_refl _) (.int .u8 ((95 : UInt8).toNat : Nat)))
        clear hset hnext hget hr hb hc
        go_wp2
        go_roundg (l.length - (j + 1))
        case measure => omega
        case rel => exact ⟨j + 1, rfl, by omega, by go_num, HSET.out, HB2.out⟩
      · have f1 : ((c.toNat : Int) == 45) = false := by rw [beq_eq_false_iff_ne]; intro e; exact h45 (UInt8.toNat_inj.1 (by show c.toNat = 45; omega))
        have e1 : dash c = c := by simp [dash, h45]
        have hre : (l.take (j + 1)).map dash ++ l.drop (j + 1) = (l.take j).map dash ++ l.drop j := by
          rw [hnext, hc, e1, ← hc, ← hget, List.set_getElem_self]
        have HRR := Lib.hid (show RowB wr w.heap.size N ((l.take (j + 1)).map dash ++ l.drop (j + 1)) by rw [hre]; exact hr)
        have HB2 := Lib.hid hb
        clear hset hnext hget hr hb hc e1 hre h45
        go_wp2
        go_roundg (l.length - (j + 1))
        case measure => omega
        case rel => exact ⟨j + 1, rfl, by omega, by go_num, HRR.out, HB2.out⟩
    · have hjl : j = l.length := by omega
      subst hjl
      rw [List.take_length, List.drop_length, List.append_nil] at hr
      have hcb := hr.conv (cap := cap)
      rw [List.length_map] at hcb
      have hT1 := HT.out.same fun k hk => hb.block k (by have := HB.out; omega)
      have HWR := Lib.hid (HW.out _ hT1 (by have := HB.out; have := hb.size; omega))
      have HB2 := Lib.hid hb
      clear hr hb hT1 hlenR
      go_wp2_with (go_at_call 67; refine HWR.out.mono ?_; rintro e w3 ⟨rfl, b3⟩)
      go_ret
      exact ⟨rfl, HB2.out.trans (b3.mono HB2.out.size)⟩
end Go.Proofs.YtdapnoocmpbijaaGreatDoor

/- name, bind. -/
namespace Go.Proofs.YtdapnoocmpbijaaGreatDoor
open Go.RowKit

theorem WrV.setBds {B b : Nat} {r : WR} {vo vt vm vb : Value} {ts : List ByteArray} {ms : List Int} {w w' : World} {vb' : Value} {l' : List (Nat × Nat)} (h : WrV B b r vo vt vm vb ts ms w) (hg : w.grownBy w' vb.ownBlock) (hown : w'.ownsRow B tBd 2 vb' l'.length (bdv l')) (hl : l'.length ≤ r.out.length) :
    w'.heap[b]? = some (.cells (r.cs vo vt vm vb) tW (0, 0)) ∧ WrV B b { r with bounds := l' } vo vt vm vb' ts ms (w'.setCell ⟨b, 8, none⟩ vb') := by
  have hr : ∀ k, vb.ownBlock = some k → kindOf w.heap[k]? = some tBd := fun k e => (rowKind h.bds k e).2
  have hb : w'.heap[b]? = some (.cells (r.cs vo vt vm vb) tW (0, 0)) := by
    rw [hg.block b h.lt (fun e => by have := hr b e.symm; rw [h.kind] at this; exact absurd (Option.some.inj this) (by decide))]
    exact h.heap
  have hg2 := grown_setCell w' ⟨b, 8, none⟩ vb'
  have hr2 : ∀ k, some b = some k → kindOf w'.heap[k]? = some tW := fun k e => by cases e; rw [hb]; rfl
  refine ⟨hb, h.hB, by have := hg.size; have := h.hw; simp [World.setCell]; omega, h.tab.same (fun k hk => ?_), by rw [setCell_heap hb]; rfl, rowKept (rowKept h.out hg (by decide) hr) hg2 (by decide) hr2,
    rowKept (rowKept h.texts hg (by decide) hr) hg2 (by decide) hr2, rowKept (rowKept h.marks hg (by decide) hr) hg2 (by decide) hr2, rowKept hown hg2 (by decide) hr2, h.nt, h.nm, hl, h.bd⟩
  rw [Below.heap_setCell _ _ _ _ (by have := h.hB; simp; omega)]
  exact hg.block k (by have := h.hw; omega) (fun e => by have := (rowKind h.bds k e.symm).1; omega)

/-- What name, bind make of a writer. -/
def WR.name (r : WR) (nm : List UInt8) : WR := if nm = [] then { r.put [48] with empty := true } else r.put (idW nm)
def WR.bind (r : WR) (n : Nat) : WR := { r.put (binder n) with bound := r.bound + n, bounds := r.bounds ++ (if n = 0 then [] else [((r.put (binder n)).out.length, r.bound + n)]) }
theorem WR.put_bound (r : WR) (l : List UInt8) : (r.put l).bound = r.bound ∧ (r.put l).bounds = r.bounds ∧ (r.put l).plain = r.plain ∧ (r.put l).cnt = r.cnt := by
  unfold WR.put; split <;> exact ⟨rfl, rfl, rfl, rfl⟩

set_option maxHeartbeats 2000000 in
set_option maxRecDepth 100000 in
theorem name_wr (B b : Nat) (r : WR) (nm : List UInt8) (hm : nameB nm = true ∨ nm = []) (w : World) (h : Wr B b r w) (hl : r.out.length + 1100 ≤ 1000000000) :
    Calls Tryz.prog 62 #[.pointer (some ⟨b, 0, none⟩), .string (bs nm)] w fun e w' => e = .returned (.tuple #[]) ∧ Wr B b (r.name nm) w' ∧ KeptM MW B w w' := by
  rcases hm with hm | rfl
  · have hne := nameB_ne hm
    have ht0 : (bs nm).toList.isEmpty = false := by rw [ByteArray.toList_eq]; cases nm with | nil => exact absurd rfl hne | cons a b => rfl
    have e1 : r.name nm = r.put (idW nm) := by unfold WR.name; rw [if_neg hne]
    rw [e1]
    have hwl := idW_len hm
    have HW := Lib.hid (written_any nm hm B w h.tabs h.hB)
    have HP := Lib.hid (fun w' (h : Wr B b r w') => put_any B b r (idW nm) w' h (by omega))
    have H := Lib.hid h
    clear h e1 hne hm
    go_enter Tryz.func62, Tryz.ntmps62
    go_wp2_with (go_at_call 67; refine HW.out.mono ?_; rintro e w1 ⟨rfl, b1⟩)
    refine (HP.out _ (H.out.below b1)).mono ?_
    rintro e w2 ⟨rfl, h2, k2⟩
    have k3 := (KeptM.of_below (M := MW) (B := B) b1).trans k2
    clear k2 b1
    go_wp2
    go_end0
    exact ⟨rfl, h2, k3⟩
  · have ht0 : (bs []).toList.isEmpty = true := by rw [ByteArray.toList_eq]; rfl
    have e1 : r.name [] = { r.put [48] with empty := true } := by unfold WR.name; rw [if_pos rfl]
    rw [e1]
    have HP := Lib.hid (put_any B b r [48] w h (by simp; omega))
    have H := Lib.hid h
    clear h e1
    go_enter Tryz.func62, Tryz.ntmps62
    go_wp2_with fail
    refine (HP.out).mono ?_
    rintro e w2 ⟨rfl, ⟨vo, vt, vm, vb, ts, ms, h2⟩, k2⟩
    have c6 := h2.c6
    have g6 := h2.fz 6
    have h3 := (h2.setEmpty true).wr
    have k3 := h2.keeps k2 6 (.bool true)
    have H3 := Lib.hid h3
    have K3 := Lib.hid k3
    clear h2 k2 h3 k3
    go_wp2
    refine bodyPost_ret (results_none rfl _ _ _) rfl ?_
    exact ⟨rfl, H3.out, K3.out⟩

theorem infoBd : (Tryz.prog.info? tBd).map (fun i => (i.zero, i.size, i.bytes)) = some (some (.agg #[.int .i64 0, .int .i64 0]), 2, 16) := by kernel_rfl

set_option maxHeartbeats 4000000 in
set_option maxRecDepth 100000 in
theorem bind_wr (B b : Nat) (r : WR) (n : Nat) (hn : n ≤ 20) (w : World) (h : Wr B b r w) (hl : r.out.length + 100 ≤ 1000000000) :
    Calls Tryz.prog 65 #[.pointer (some ⟨b, 0, none⟩), .int .u64 n] w fun e w' => e = .returned (.tuple #[]) ∧ Wr B b (r.bind n) w' ∧ KeptM MW B w w' := by
  have HB := Lib.hid (fun w => binder_text n (by omega) w)
  have hbl : (binder n).length ≤ 14 := (bb_binder n hn).2
  have HP := Lib.hid (fun w' (h : Wr B b r w') => put_any B b r (binder n) w' h (by omega))
  have H := Lib.hid h
  have hput := WR.put_bound r (binder n)
  have hgrow : n ≠ 0 → r.out.length + 1 ≤ (r.put (binder n)).out.length := by
    intro h0
    have hbn : binder n ≠ [] := by unfold binder; rw [if_neg h0]; simp
    have : 1 ≤ (binder n).length := by cases hb : binder n with | nil => exact absurd hb hbn | cons a l => simp
    unfold WR.put
    rw [if_neg hbn]
    simp; omega
  have hle : (r.put (binder n)).out.length ≤ r.out.length + 15 := by
    unfold WR.put
    split
    · omega
    · simp only [List.length_append, sepOf]
      split <;> simp <;> omega
  have hmono : r.out.length ≤ (r.put (binder n)).out.length := by unfold WR.put; split <;> simp <;> omega
  obtain ⟨r1, hr1⟩ : ∃ r1, r.put (binder n) = r1 := ⟨_, rfl⟩
  have hbind : r.bind n = { r1 with bound := r1.bound + n, bounds := r1.bounds ++ (if n = 0 then [] else [(r1.out.length, r1.bound + n)]) } := by unfold WR.bind; rw [hr1] at hput ⊢; rw [hput.1, hput.2.1]
  rw [hbind]
  rw [hr1] at HP hput hgrow hle hmono
  have HPUT := Lib.hid hput
  clear h hr1 hbind hput
  go_enter Tryz.func65, Tryz.ntmps65
  go_wp2_with (go_at_call 78; refine (HB.out _).mono ?_; rintro e w1 ⟨rfl, q, rfl⟩)
  refine (HP.out _ (H.out.drewN q)).mono ?_
  rintro e w2 ⟨rfl, ⟨vo, vt, vm, vb, ts, ms, h2⟩, k2⟩
  have hbd : r1.bound + n ≤ 20 * r1.out.length := by
    obtain ⟨_, _, _, _, _, _, h0⟩ := H.out
    have := h0.bd
    have e := HPUT.out.1
    by_cases hz : n = 0
    · omega
    · have := hgrow hz; omega
  have c7 := h2.c7
  have g7 := h2.fz 7
  have hnw : r1.bound + n ≤ 9223372036854775807 := by omega
  have h3 := h2.setBound (r1.bound + n) rfl hbd
  have K3 := Lib.hid (h2.keeps (((KeptM.refl (M := MW) (B := B) w).drewN q).trans k2) 7 (.int .i64 ((r1.bound + n : Nat) : Int)))
  have hsz3 : (w2.setCell ⟨b, 7, none⟩ (.int .i64 ((r1.bound + n : Nat) : Int))).heap.size = w2.heap.size := by simp [World.setCell]
  clear k2 h2
  have en : ((r1.bound + n : Nat) : Int) = (r1.bound : Int) + (n : Int) := by simp
  rw [en] at h3 K3 hsz3
  by_cases hz : n = 0
  · subst hz
    have e0 : (r1.bound : Int) + ((0 : Nat) : Int) = (r1.bound : Int) := by simp
    rw [e0] at h3 K3
    have hf := Lib.hid h3.wr
    clear h3
    go_wp2
    refine bodyPost_end (results_none rfl _ _ _) rfl ?_
    exact ⟨rfl, hf.out, K3.out⟩
  · have hz' : decide ((0 : Int) < (n : Int)) = true := by simp; omega
    have d8 := h3.c8
    have d0 := h3.c0
    have d7 := h3.c7
    obtain ⟨bo, co, rfl⟩ : ∃ bo co, vo = .slice bo r1.out.length co := by
      rcases h3.out.2 with ⟨hv, h0⟩ | ⟨g, cap, cur, hv, _⟩
      · exact ⟨none, 0, by rw [hv]; simp at h0; rw [h0]; rfl⟩
      · exact ⟨_, _, hv⟩
    obtain ⟨i0, hi, hz0, hz1, hz2⟩ := info_parts2 infoBd
    have h4 := h3.alloc (.cells #[.int .i64 (r1.out.length : Int), .int .i64 ((r1.bound : Int) + (n : Int))] tBd)
    go_wp2
    generalize hW3 : w2.setCell ⟨b, 7, none⟩ (.int .i64 ((r1.bound : Int) + (n : Int))) = W3 at d8 d0 d7 h3 h4 hsz3 K3 ⊢
    rw [en] at d7
    have own4 := (h4.drewN 1).bds
    have d84 := h4.c8
    have hnb := (h4.drewN 1).nb
    have K4 := Lib.hid ((K3.out.alloc (.cells #[.int .i64 (r1.out.length : Int), .int .i64 ((r1.bound : Int) + (n : Int))] tBd)).drewN 1)
    have p1 := Lib.hid (World.news_of_block (heap_alloc_new W3 (.cells #[.int .i64 (r1.out.length : Int), .int .i64 ((r1.bound : Int) + (n : Int))] tBd)))
    have hlen : r1.bounds.length + 1 ≤ 1000000000 := by have := h4.nb; simp at this; omega
    have hbnd : r1.bounds.length + 1 ≤ r1.out.length := by
      obtain ⟨_, _, _, _, _, _, h0⟩ := H.out
      have := h0.nb
      have e := HPUT.out.2.1
      have := hgrow hz
      rw [e]; omega
    have p3 : r1.bounds.length + 1 ≤ maxLen := by unfold maxLen; omega
    have p4 : (r1.bounds.length + 1) * 16 ≤ 140737488355328 := by omega
    have p5 := (h4.drewN 1).hw
    have FIN : Hid (∀ (w5 : World) (v' : Value), ((W3.alloc (.cells #[.int .i64 (r1.out.length : Int), .int .i64 ((r1.bound : Int) + (n : Int))] tBd)).drewN 1).grownBy w5 vb.ownBlock →
        w5.ownsRow B tBd 2 v' (r1.bounds.length + 1) (bdv r1.bounds ++ [.int .i64 (r1.out.length : Int), .int .i64 ((r1.bound : Int) + (n : Int))]) →
        w5.cell? ⟨b, 8, none⟩ = some vb ∧ w5.frozen? ⟨b, 8, none⟩ = false ∧ Wr B b { r1 with bound := r1.bound + n, bounds := r1.bounds ++ [(r1.out.length, r1.bound + n)] } (w5.setCell ⟨b, 8, none⟩ v') ∧ KeptM MW B w (w5.setCell ⟨b, 8, none⟩ v')) := Lib.hid (by
      intro w5 v' hg hown
      have e1 : (r1.bounds ++ [(r1.out.length, r1.bound + n)]).length = r1.bounds.length + 1 := by simp
      obtain ⟨hb, h5⟩ := (h4.drewN 1).setBds (vb' := v') (l' := r1.bounds ++ [(r1.out.length, r1.bound + n)]) hg (by rw [e1]; simpa [bdv] using hown) (by rw [e1]; exact hbnd)
      refine ⟨by rw [cellAt hb]; rfl, Lib.frozen_of_heap hb 8, ?_, (K4.out.grown hg (t := tBd) (by decide) (fun k e => rowKind own4 k e)).setCell (p := ⟨b, 8, none⟩) h4.hB (t := tW) (by decide) (by rw [hb, kindOf]) _⟩
      exact h5.wr)
    clear h3 h4 K4 hnb hz K3
    go_region_law (refine step_append_lies _ rfl (.tmp 23) (.tmp 34) 43 rfl B tBd i0 (.agg #[.int .i64 0, .int .i64 0]) 2 16 Tryz.underlying43 hi hz0 hz1 hz2 rfl (by decide) vb r1.bounds.length _ (by simp [Act.eval]) own4 ⟨w2.heap.size, 0, none⟩ 1 1 [.int .i64 (r1.out.length : Int), .int .i64 ((r1.bound : Int) + (n : Int))] (by simp [Act.eval]) rfl (by rw [← hsz3]; exact p1.out) (by intro u hu; simp at hu; rcases hu with rfl | rfl <;> rfl) (by decide) p3 p4 p5 _ rfl ?_; intro g5 cap5 w5 hown5 hg5 hat5 hlt5; obtain ⟨d8', g8', R5, K5⟩ := FIN.out w5 _ hg5 hown5)
    all_goals
      go_wp2
      go_end0
      exact ⟨rfl, R5, K5⟩
end Go.Proofs.YtdapnoocmpbijaaGreatDoor

/- The look's memory. -/
namespace Go.Proofs.YtdapnoocmpbijaaGreatDoor
open Go.RowKit

theorem fits_const (kd : Int) (w : World) : Calls Tryz.prog 35 #[.int .i64 kd, .int .i64 3] w fun e w' => e = .returned (.bool (decide (kd = 20) || decide (kd = 21))) ∧ w' = w := by
  by_cases h : kd = 20
  · subst h
    go_enter Tryz.func35, Tryz.ntmps35
    go_wp2
    go_ret
    exact ⟨rfl, rfl⟩
  · have e1 : (kd == 20) = false := by rw [beq_eq_false_iff_ne]; exact h
    go_enter Tryz.func35, Tryz.ntmps35
    go_wp2
    go_ret
    refine ⟨?_, rfl⟩
    by_cases h2 : kd = 21
    · subst h2; rfl
    · have e2 : (kd == 21) = false := by rw [beq_eq_false_iff_ne]; exact h2
      simp [h, h2]

abbrev tL : TypeId := 56

/-- A look that goes on. -/
def Lk (b : Nat) (left : Int) (w : World) : Prop := w.heap[b]? = some (.cells #[.int .i64 left] tL (0, 0))
abbrev ML : List TypeId := [tL]
theorem Lk.cell {b : Nat} {left : Int} {w : World} (h : Lk b left w) : w.cell? ⟨b, 0, none⟩ = some (.int .i64 left) := by rw [cellAt h]; rfl
theorem Lk.fz {b : Nat} {left : Int} {w : World} (h : Lk b left w) : w.frozen? ⟨b, 0, none⟩ = false := Lib.frozen_of_heap h 0
theorem Lk.lt {b : Nat} {left : Int} {w : World} (h : Lk b left w) : b < w.heap.size := (Array.getElem?_eq_some_iff.1 h).1
theorem Lk.set {b : Nat} {left : Int} {w : World} (h : Lk b left w) (l : Int) : Lk b l (w.setCell ⟨b, 0, none⟩ (.int .i64 l)) := by
  unfold Lk at h ⊢; rw [setCell_heap h]; rfl
theorem Lk.alloc {b : Nat} {left : Int} {w : World} (h : Lk b left w) (o : Obj) : Lk b left (w.alloc o) := (Below.heap_alloc _ _ _ h.lt).trans h
theorem Lk.keeps {B b : Nat} {left : Int} {a w : World} (h : Lk b left w) (hB : B ≤ b) (k : KeptM ML B a w) (u : Value) : KeptM ML B a (w.setCell ⟨b, 0, none⟩ u) :=
  k.setCell (p := ⟨b, 0, none⟩) hB (t := tL) (by decide) (by unfold Lk at h; rw [h]; rfl) u
/-- It answers a bool of which Q holds, and the look goes on. -/
def LookP (Q : Prop) (B b : Nat) (w : World) (e : Ending) (w' : World) : Prop := ∃ (bl : Bool) (l : Int), e = .returned (.bool bl) ∧ (bl = true → Q) ∧ Lk b l w' ∧ KeptM ML B w w'
theorem LookP.mk {Q : Prop} {B b : Nat} {w w' : World} (bl : Bool) {l : Int} (h1 : bl = true → Q) (h2 : Lk b l w') (h3 : KeptM ML B w w') : LookP Q B b w (.returned (.bool bl)) w' := ⟨bl, l, rfl, h1, h2, h3⟩

end Go.Proofs.YtdapnoocmpbijaaGreatDoor

/- Trees in memory: what a value holds, how an argument is opened. -/
namespace Go.Proofs.YtdapnoocmpbijaaGreatDoor
open Go.RowKit

abbrev tTree : TypeId := 25
abbrev tTrees : TypeId := 23

/-- The kids that a slice names lie in w, in a block below N: kid i has the cells V i. -/
def KidsIn (N : Nat) (w : World) (a : Option Addr) (m : Nat) (V : Nat → Array Value) : Prop :=
  0 < m → ∃ b off, a = some ⟨b, off, none⟩ ∧ b < N ∧ ∀ i, i < m → (V i).size = 6 ∧ ∀ j, j < 6 → w.cell? ⟨b, off + i * 6 + j, none⟩ = (V i)[j]?

/-- The cells of a tree, all of it in blocks below N. -/
inductive TreeAt (M N : Nat) (w : World) : Array Value → RT → Prop
  | mk (kd : Int) (c : UInt8) (nm : List UInt8) (n : Nat) (fl : Bool) (a : Option Addr) (m cap : Nat) (V : Nat → Array Value) (ks : List RT) (hn : n < 18446744073709551616) (hk : ks.length = m) (hc : m ≤ cap ∧ cap ≤ maxLen) (hnm : nm.length ≤ M ∧ m ≤ M)
      (hV : KidsIn N w a m V) (hT : ∀ i (h : i < ks.length), TreeAt M N w (V i) ks[i]) : TreeAt M N w (rv kd c nm n fl (.slice a m cap)) (.mk kd c nm n fl ks)

theorem KidsIn.mono {N N' : Nat} {w w' : World} {a : Option Addr} {m : Nat} {V : Nat → Array Value} (h : KidsIn N w a m V) (hN : N ≤ N') (hw : ∀ k, k < N → w'.heap[k]? = w.heap[k]?) : KidsIn N' w' a m V := by
  intro hm
  obtain ⟨b, off, h1, h2, h3⟩ := h hm
  refine ⟨b, off, h1, by omega, fun i hi => ⟨(h3 i hi).1, fun j hj => ?_⟩⟩
  rw [← (h3 i hi).2 j hj]
  simp only [World.cell?, hw b h2]
theorem TreeAt.mono {M N N' : Nat} {w w' : World} {v : Array Value} {t : RT} (h : TreeAt M N w v t) (hN : N ≤ N') (hw : ∀ k, k < N → w'.heap[k]? = w.heap[k]?) : TreeAt M N' w' v t := by
  induction h with
  | mk kd c nm n fl a m cap V ks hn hk hc hnm hV _ ih => exact .mk kd c nm n fl a m cap V ks hn hk hc hnm (hV.mono hN hw) ih
theorem TreeAt.stays {M N : Nat} {w w' : World} {v : Array Value} {t : RT} (h : TreeAt M N w v t) {B : Nat} (hb : Below B w w') (hN : N ≤ B) : TreeAt M N w' v t :=
  h.mono (Nat.le_refl _) fun k hk => hb.block k (by omega)

theorem cellsTree : Tryz.prog.cellsOf tTree = 6 := by kernel_rfl
theorem cellsK : Tryz.prog.cellsOf 3 = 1 ∧ Tryz.prog.cellsOf 5 = 1 ∧ Tryz.prog.cellsOf 9 = 1 ∧ Tryz.prog.cellsOf 22 = 1 ∧ Tryz.prog.cellsOf 4 = 1 ∧ Tryz.prog.cellsOf tTrees = 1 := by
  refine ⟨?_, ?_, ?_, ?_, ?_, ?_⟩ <;> kernel_rfl
theorem underTree : ∃ fs, Tryz.prog.underlying tTree = some (.struct fs) ∧ fs.toList.map (fun (f : Field) => (f.type, f.offset)) = [(3, 0), (5, 1), (9, 2), (22, 3), (4, 4), (tTrees, 5)] := by
  have h : ((Tryz.prog.underlying tTree).map fun u => match u with | .struct fs => fs.toList.map (fun (f : Field) => (f.type, f.offset)) | _ => []) = some [(3, 0), (5, 1), (9, 2), (22, 3), (4, 4), (tTrees, 5)] := by kernel_rfl
  obtain ⟨u, hu, he⟩ := Option.map_eq_some_iff.1 h
  cases u <;> simp at he
  exact ⟨_, hu, he⟩

section
variable {H : Type} {enc : TypeId × Value → H} {W : World} {held : Bool}

theorem field_at {fs : Array Field} {l : List (TypeId × Nat)} (h : fs.toList.map (fun (f : Field) => (f.type, f.offset)) = l) (i : Nat) (p : TypeId × Nat) (hi : l[i]? = some p) : ∃ f, fs[i]? = some f ∧ f.type = p.1 ∧ f.offset = p.2 := by
  subst h
  simp only [List.getElem?_map, Option.map_eq_some_iff, Array.getElem?_toList] at hi
  obtain ⟨f, hf, rfl⟩ := hi
  exact ⟨f, hf, rfl, rfl⟩

theorem cell_lt {w : World} {a : Addr} {v : Value} (h : w.cell? a = some v) : a.block < w.heap.size := by
  rcases Nat.lt_or_ge a.block w.heap.size with h' | h'
  · exact h'
  · simp [World.cell?, Array.getElem?_eq_none h'] at h

set_option maxRecDepth 100000 in
set_option maxHeartbeats 1000000 in
/-- What is read as a tree is one (Bk: a bound that goes down to the parts). -/
theorem open_tree {M : Nat} {Bk : DataW H → Prop} (bA : ∀ l, Bk (.agg l) → ∀ d ∈ l, Bk d) (bS : ∀ l s, Bk (.slice l s) → l.length ≤ maxLen → l.length ≤ M ∧ ∀ d ∈ l, Bk d) (bT : ∀ l, Bk (.lit (.string l)) → l.length ≤ maxLen → l.length ≤ M) :
    ∀ (fuel : Nat) (cs : List Value) (x : DataW H × List MemPlace), DataW.trod enc Tryz.prog W 0 (fun _ => true) held fuel tTree cs = some x → Bk x.1 → ∃ t, TreeAt M W.heap.size W cs.toArray t := by
  intro fuel
  induction fuel using Nat.strongRecOn with
  | _ fuel ih =>
    intro cs x h hbk
    obtain ⟨fs, hu, hfs⟩ := underTree
    obtain ⟨xs, n, rfl, rfl, hlen, hxl, hall⟩ := DataW.trod_struct hu h
    rw [cellsTree] at hlen
    match cs, hlen with
    | [c0, c1, c2, c3, c4, c5], _ =>
    have hx : ∀ (i : Nat) (p : TypeId × Nat), ([(3, 0), (5, 1), (9, 2), (22, 3), (4, 4), (tTrees, 5)] : List (TypeId × Nat))[i]? = some p → ∃ y, DataW.trod enc Tryz.prog W 0 (fun _ => true) held n p.1 (([c0, c1, c2, c3, c4, c5].drop p.2).take (Tryz.prog.cellsOf p.1)) = some y ∧ Bk y.1 := by
      intro i p hp
      obtain ⟨f, hf, rfl', rfl''⟩ := field_at hfs i p hp
      have := hall i f hf
      rw [rfl', rfl''] at this
      have hi : i < xs.length := by rw [hxl]; exact (Array.getElem?_eq_some_iff.1 hf).1
      rw [List.getElem?_eq_getElem hi] at this
      exact ⟨_, this, bA _ hbk _ (List.mem_map_of_mem (List.getElem_mem hi))⟩
    obtain ⟨k1, k2, k3, k4, k5, k6⟩ := cellsK
    obtain ⟨y0, h0, g0⟩ := hx 0 _ rfl
    obtain ⟨y1, h1, g1⟩ := hx 1 _ rfl
    obtain ⟨y2, h2, g2⟩ := hx 2 _ rfl
    obtain ⟨y3, h3, g3⟩ := hx 3 _ rfl
    obtain ⟨y4, h4, g4⟩ := hx 4 _ rfl
    obtain ⟨y5, h5, g5⟩ := hx 5 _ rfl
    clear hx hall
    simp only [k1, k2, k3, k4, k5, k6, List.drop_succ_cons, List.drop_zero, List.take_succ_cons, List.take_zero] at h0 h1 h2 h3 h4 h5
    obtain ⟨kd, e0, _, _⟩ := DataW.trod_int Tryz.underlying3 h0
    obtain ⟨z1, e1, _, w1⟩ := DataW.trod_int Tryz.underlying5 h1
    obtain ⟨s, e2, x2, hs⟩ := DataW.trod_string Tryz.underlying9 h2
    obtain ⟨z3, e3, _, w3⟩ := DataW.trod_int Tryz.underlying22 h3
    obtain ⟨fl, e4, _⟩ := DataW.trod_bool Tryz.underlying4 h4
    simp only [List.cons.injEq, and_true] at e0 e1 e2 e3 e4
    subst e0; subst e1; subst e2; subst e3; subst e4
    have b1 := bounds_u8 w1
    have b3 := bounds_u64 w3
    obtain ⟨c, hc⟩ : ∃ c : UInt8, z1 = c.toNat := ⟨UInt8.ofNat z1.toNat, by rw [UInt8.toNat_ofNat_of_lt' (by show z1.toNat < 256; omega)]; omega⟩
    obtain ⟨m3, hm3⟩ : ∃ m : Nat, z3 = m := ⟨z3.toNat, by omega⟩
    subst hc; subst hm3
    have hsb : s = bs s.data.toList := (bs_of s).symm
    have hsz : s.data.toList.length ≤ M := bT _ (by rw [x2] at g2; exact g2) (by rw [Array.length_toList]; exact hs)
    obtain ⟨nm, hnm⟩ : ∃ nm, nm = s.data.toList := ⟨_, rfl⟩
    rw [← hnm] at hsb hsz
    subst hsb
    rcases DataW.trod_slice Tryz.underlying23 h5 with ⟨e5, _⟩ | ⟨a, len, cap, elems, rest, n', rfl, e5, x5, _, hl, hm, hel, hE, _, _⟩
    · simp only [List.cons.injEq, and_true] at e5
      subst e5
      exact ⟨.mk kd c nm m3 fl [], .mk kd c nm m3 fl none 0 0 (fun _ => #[]) [] (by omega) rfl ⟨Nat.le_refl _, Nat.zero_le _⟩ ⟨hsz, Nat.zero_le _⟩ (fun h => absurd h (by omega)) (fun i h => absurd h (by simp))⟩
    · simp only [List.cons.injEq, and_true] at e5
      subst e5
      rw [x5] at g5
      obtain ⟨hlM, hbE⟩ := bS _ _ g5 (by rw [List.length_map, hel]; omega)
      rw [List.length_map, hel] at hlM
      have hk : ∀ i, i < len → ∃ cs', W.cells? 0 (a.add (i * 6)) 6 = some cs' ∧ ∃ t, TreeAt M W.heap.size W cs'.toArray t := by
        intro i hi
        have := hE i hi
        rw [List.getElem?_eq_getElem (by omega), cellsTree] at this
        obtain ⟨cs', h1, h2⟩ := Option.bind_eq_some_iff.1 this
        exact ⟨cs', h1, ih n' (by omega) cs' _ h2 (hbE _ (List.mem_map_of_mem (List.getElem_mem (by omega))))⟩
      obtain ⟨V, hV⟩ := Go.Deep.choose_lt (α := List Value) (p := fun i cs' => W.cells? 0 (a.add (i * 6)) 6 = some cs' ∧ ∃ t, TreeAt M W.heap.size W cs'.toArray t) hk
      obtain ⟨T, hT⟩ := Go.Deep.choose_lt (α := RT) (p := fun i t => TreeAt M W.heap.size W (V i).toArray t) (fun i hi => (hV i hi).2)
      refine ⟨.mk kd c nm m3 fl ((List.range len).map T), .mk kd c nm m3 fl (some a) len cap (fun i => (V i).toArray) _ (by omega) (by simp) ⟨hl, hm⟩ ⟨hsz, hlM⟩ ?_ ?_⟩
      · intro h0
        obtain ⟨b, off, spot⟩ := a
        have hcell := fun i hi => World.cells?_some (hV i hi).1
        have hspot : spot = none := by
          obtain ⟨_, hl6, hc6⟩ := hcell 0 h0
          have := hc6 0 (by omega)
          rw [List.getElem?_eq_getElem (by omega), Nat.zero_mul] at this
          exact World.cell?_spot (a := ⟨b, off, spot⟩) this
        subst hspot
        refine ⟨b, off, rfl, ?_, fun i hi => ?_⟩
        · obtain ⟨_, hl6, hc6⟩ := hcell 0 h0
          have := hc6 0 (by omega)
          rw [List.getElem?_eq_getElem (by omega), Nat.zero_mul] at this
          exact cell_lt (a := ⟨b, off, none⟩) this
        · obtain ⟨_, hl6, hc6⟩ := hcell i hi
          refine ⟨by simpa using hl6, fun j hj => ?_⟩
          have := hc6 j (by omega)
          rw [WideShapes.add_plain, WideShapes.add_plain] at this
          simpa using this
      · intro i hi
        simp at hi ⊢
        exact hT i hi
end
end Go.Proofs.YtdapnoocmpbijaaGreatDoor

