/- The builder that lies in a reader: String. -/
import Derived.Test.YtdapnoocmpbijaaGreatDoorY01
import Derived.Test.YtdapnoocmpbijaaGreatDoorY02
import Derived.Lib.UnsafeStr
import Derived.Lib.SlicesS
import Derived.Defers
import Derived.Recover
import Derived.Test.YtdapnoocmpbijaaGreatDoorShelf
import Derived.Lib.ItoaNum
namespace Go.Proofs.YtdapnoocmpbijaaGreatDoor
open Go.RowKit

theorem freeze_other (w : World) (p : Addr) (n k : Nat) (h : k ≠ p.block) : (w.freeze p n).heap[k]? = w.heap[k]? := by
  unfold World.freeze
  split
  · rfl
  · simp only [Array.getElem?_modify]
    rw [if_neg (by omega)]

set_option maxHeartbeats 2000000 in
set_option maxRecDepth 100000 in
theorem bString (B b : Nat) (r : RS) (w : World) (h : Rst B b r w) (h0 : r.out ≠ []) :
    Calls Tryz.prog 54 #[.pointer (some ⟨b, 3, none⟩)] w fun e w' => e = .returned (.string (bs r.out)) ∧ Below B w w' ∧ w'.heap[b]? = w.heap[b]? := by
  obtain ⟨ad, buf, h⟩ := h.open
  have c4 := h.c4
  have hown := h.own
  have hl0 : r.out.length ≠ 0 := by simpa using h0
  obtain ⟨l, hl⟩ : ∃ l, l = r.out := ⟨_, rfl⟩
  rw [← hl] at hown hl0 ⊢
  obtain ⟨g, cap, cur, rfl, hbg, hg, hnc, hcm, hcs, htake⟩ : ∃ g cap cur, buf = .slice (some ⟨g, 0, none⟩) l.length cap ∧ B ≤ g ∧ w.heap[g]? = some (.cells cur tB (0, 0)) ∧ l.length ≤ cap ∧ cap ≤ maxLen ∧ cur.size = cap * 1 ∧ cur.toList.take (l.length * 1) = bv l := by
    rcases hown.2 with ⟨_, hz⟩ | ⟨g, cap, cur, hv, r⟩
    · exact absurd hz hl0
    · exact ⟨g, cap, cur, hv, r⟩
  have c1 : w.drew.cell? ⟨b, 4, none⟩ = some (.slice (some ⟨g, 0, none⟩) l.length cap) := c4
  have hSD : (Builtin.unsafeSliceData_ #[41] 98 #[.slice (some ⟨g, 0, none⟩) l.length cap]).run Tryz.prog w.drew = .ok (.pointer (some ⟨g, 0, none⟩)) w.drew :=
    Lib.run_unsafeSliceData_row _ _ _ _ _ _ (by omega)
  have hUS : (Builtin.unsafeString_ #[98, 3] 9 #[.pointer (some ⟨g, 0, none⟩), .int .i64 l.length]).run Tryz.prog w.drew = .ok (.string (bs l)) (w.drew.freeze ⟨g, 0, none⟩ l.length) := by
    refine Lib.run_unsafeString_row w.drew 98 3 9 tB Tryz.underlying98 (by kernel_rfl) g cur.size (by have hg' : w.drew.heap[g]? = some (.cells cur tB (0, 0)) := hg; simp [World.shape?, hg']) l (by intro e; rw [e] at hl0; exact hl0 rfl) (by omega) (by unfold maxLen at hcm; omega) ?_
    intro j x hx
    have := hown.cells (g := g) rfl j (.int .u8 x.toNat) (by simp [bv, hx])
    exact this
  have bf : Below B w (w.drew.freeze ⟨g, 0, none⟩ l.length) := Lib.below_freeze (Below.drew (Below.refl B w)) (p := ⟨g, 0, none⟩) hbg _
  have hgb : b ≠ g := fun e => Lib.ownBlock_ne h.own h.heap (by decide) (by rw [e]; rfl)
  have bh : (w.drew.freeze ⟨g, 0, none⟩ l.length).heap[b]? = w.heap[b]? := freeze_other _ _ _ _ hgb
  clear hgb
  clear hl h hown hg htake h0 hl0
  go_enter Tryz.func54, Tryz.ntmps54
  go_wp2
  go_region
  all_goals (go_wp2; go_ret; exact ⟨rfl, bf, bh⟩)
end Go.Proofs.YtdapnoocmpbijaaGreatDoor

/- zzIndex of a byte that does not occur. -/
namespace Go.Proofs.YtdapnoocmpbijaaGreatDoor
open Go.RowKit

set_option maxHeartbeats 2000000 in
set_option maxRecDepth 100000 in
theorem index_none (l : List UInt8) (c : UInt8) (hc : ∀ x ∈ l, x ≠ c) (hl : l.length ≤ 1000000000000) (w : World) :
    Calls Tryz.prog 47 #[.string (bs l), .string (bs [c])] w fun e w' => e = .returned (.int .i64 (-1)) ∧ w' = w := by
  have HC := Lib.hid hc
  clear hc
  go_enter Tryz.func47, Tryz.ntmps47
  go_wp2_with fail
  go_loop [5] (fun i => ∃ k : Nat, k ≤ l.length ∧ i = .int .i64 k) (fun i => l.length - (intOf i).toNat)
  case atStart => exact ⟨0, Nat.zero_le _, rfl⟩
  case round =>
    obtain ⟨k, hk, rfl⟩ := hrel
    by_cases hlt : k < l.length
    · have hs : (((bs l).extract k (k + 1)).toList == (bs [c]).toList) = false := by
        rw [Lib.bytes_beq_false_iff, bs_extract, show (l.drop k).take (k + 1 - k) = [l[k]] by rw [Nat.add_sub_cancel_left, List.drop_eq_getElem_cons hlt]; rfl]
        intro e
        have := bs_inj e
        simp at this
        exact HC.out _ (List.getElem_mem hlt) this
      go_wp2_with fail
      go_round
      case rel => exact ⟨k + 1, by omega, by go_num⟩
      case measure => simp [intOf]; omega
    · have hkn : k = l.length := by omega
      subst hkn
      go_wp2_with fail
      go_ret
      exact ⟨rfl, rfl⟩
end Go.Proofs.YtdapnoocmpbijaaGreatDoor

/- The deferred closures where the frame below returns. -/
namespace Go.Proofs.YtdapnoocmpbijaaGreatDoor
open Go.RowKit

theorem top_idle (p q : Addr) (w : World) :
    CallsD Tryz.prog 46 #[.pointer (some p), .pointer (some q)] .returning w fun e u' w' => e = .returned (.tuple #[]) ∧ u' = .returning ∧ w' = w := by
  refine callsD_of_wpS Tryz.func46 rfl fun c₀ cs hu => ?_
  apply wpS_seq
  apply wpS_region
  simp [wpOpsS, go_sem, recoverD, hu, Tryz.ntmps46, Exit.thenS]
  apply wpS_seq
  apply wpS_region
  simp [wpOpsS, go_sem, Exit.thenS]
  refine wpS_cond (t := false) (by simp [Act.eval]) ?_
  simp only [Bool.false_eq_true, if_false]
  refine wpS_of_wp (wp_skip ?_)
  cases c₀
  simp_all [bodyPostS, results, Tryz.results46]
end Go.Proofs.YtdapnoocmpbijaaGreatDoor

/- rustToString. -/
namespace Go.Proofs.YtdapnoocmpbijaaGreatDoor
open Go.RowKit

/-- A reader that begins. -/
def R0 (str : List UInt8) : RS := ⟨str, str, 0, [], false, 0, 0⟩

theorem Rst.fresh {B : Nat} {w : World} (ht : Tabs B w) (hB : B ≤ w.heap.size) (str : List UInt8) (hl : str.length ≤ 1000000000) :
    Rst w.heap.size w.heap.size (R0 str) (w.alloc (.cells ((R0 str).cs (.pointer none) (.slice none 0 0)) tR)) := by
  refine ⟨.pointer none, .slice none 0 0, ⟨Nat.le_refl _, by simp, by simpa [R0] using hl, ?_, heap_alloc_new w _, .inl ⟨rfl, rfl⟩, ⟨by simp [R0, bv], .inl ⟨rfl, rfl⟩⟩⟩⟩
  obtain ⟨W, h1, h2, h3⟩ := ht
  exact ⟨W, h1, by omega, fun k hk => (Below.heap_alloc _ _ _ (by omega)).trans (h3 k hk)⟩

set_option maxHeartbeats 4000000 in
set_option maxRecDepth 100000 in
theorem toString_any (c : UInt8) (inp txt : List UInt8) (G : Nat → Prop) (hp : Says 70 #[.bool true] 0 false (c :: inp) [] txt G) (hc : c.toNat < 48 ∨ 57 < c.toNat)
    (hdot : ∀ x ∈ 95 :: 82 :: c :: inp, x ≠ 46) (hlen : inp.length ≤ 100000000) (ht : txt ≠ []) (htl : txt.length ≤ 1000000000) (B : Nat) (w : World) (hT : Tabs B w) (hB : B ≤ w.heap.size) :
    Calls Tryz.prog 33 #[.string (bs (95 :: 82 :: c :: inp)), .slice none 0 0] w fun e w' => e = .returned (.tuple #[.string (bs txt), .nilIface]) ∧ Below w.heap.size w w' := by
  have hmf : ∀ (fn : Fn) (first cap : Array Value) (w : World), (Instr.makeFunc fn first cap).run Tryz.prog w = .ok (.func fn first cap) w := fun _ _ _ _ => rfl
  have HX := Lib.hid (fun w => index_none (95 :: 82 :: c :: inp) 46 hdot (by simp; omega) w)
  have HP : Hid (∀ w, Calls Tryz.prog 45 #[.string (bs (95 :: 82 :: c :: inp)), .string (bs [95, 82])] w fun e w' => e = .returned (.bool true) ∧ w' = w) := by
    intro w
    refine (Tryz.strings_HasPrefix (bs (95 :: 82 :: c :: inp)) (bs [95, 82]) w).mono ?_
    rintro e w' ⟨rfl, rfl⟩
    exact ⟨by simp [Lib.hasPrefix], rfl⟩
  have b1 : Below w.heap.size w ((w.alloc (.cells #[.string ⟨#[]⟩] 9)).alloc (.cells #[.nilIface] 49)) := ((Below.refl _ _).alloc (Nat.le_refl _) _).alloc (by simp) _
  have F := Rst.fresh (hT.same fun k hk => (b1.mono hB).block k hk) (by simp; omega : B ≤ ((w.alloc (.cells #[.string ⟨#[]⟩] 9)).alloc (.cells #[.nilIface] 49)).heap.size) (c :: inp) (by simp; omega)
  have b2 := Lib.hid (b1.alloc (by simp; omega) (.cells ((R0 (c :: inp)).cs (.pointer none) (.slice none 0 0)) tR))
  have e1 : ((w.alloc (.cells #[.string ⟨#[]⟩] 9)).alloc (.cells #[.nilIface] 49)).heap.size = w.heap.size + 1 + 1 := by simp
  rw [e1] at F
  have A := Lib.hid (At.start F)
  have HS := Lib.hid (symbol_any 0 false c inp txt G hp hc)
  have TL := Lib.hid htl
  have TN := Lib.hid ht
  have hex : (bs (95 :: 82 :: c :: inp)).extract 2 (inp.length + 1 + 1 + 1) = bs (c :: inp) := by rw [bs_extract]; congr 1; simp
  clear hp hc hdot hT hB b1 e1 F htl ht
  go_enter_defers Tryz.func33, Tryz.ntmps33
  go_wp2_with (first
    | (go_at_call 45; refine (HP.out _).mono ?_; rintro e w' ⟨rfl, rfl⟩)
    | (go_at_call 47; refine (HX.out _).mono ?_; rintro e w' ⟨rfl, rfl⟩)
    | (go_at_call 50; fail))
  go_loop [10, 38] (fun _ i => i = .int .i64 0) (fun _ _ => 0)
  case atStart => rfl
  case round =>
    subst hrel
    go_wp2_with (go_at_call 50; refine (At.says HS.out A.out rfl rfl (fun _ => by simpa [R0] using TL.out)).mono ?_)
    rintro e w1 ⟨rfl, A1⟩
    intro A1
    have c1 := A1.c1
    have A1' := A1
    obtain ⟨o, l, _, _, H, K⟩ := A1'
    have BS := Lib.hid (bString _ _ _ _ H (by simpa [R0, RS.to] using TN.out))
    obtain ⟨ad, buf, V⟩ := H
    have c9 := V.c9
    have c5 := V.c5
    have b3 := Lib.hid (b2.out.trans ((K.below (by simp)).mono (by omega)))
    have HV := Lib.hid V.heap
    have hb0 : w1.heap[w.heap.size]? = some (.cells #[.string ⟨#[]⟩] 9 (0, 0)) := by
      rw [K.block _ (by simp <;> omega) (.inl (by omega)), Below.heap_alloc _ _ _ (by simp <;> omega), Below.heap_alloc _ _ _ (by simp)]
      exact heap_alloc_new w _
    have hb1 : w1.heap[w.heap.size + 1]? = some (.cells #[.nilIface] 49 (0, 0)) := by
      rw [K.block _ (by simp) (.inl (by omega)), Below.heap_alloc _ _ _ (by simp)]
      have := heap_alloc_new (w.alloc (.cells #[.string ⟨#[]⟩] 9)) (.cells #[.nilIface] 49)
      simpa using this
    have HB0 := Lib.hid hb0
    have HB1 := Lib.hid hb1
    clear hb0 hb1
    clear A1 V K A b2
    go_wp2_with (go_at_call 54; refine BS.out.mono ?_)
    rintro e w2 ⟨rfl, b4, hb⟩
    have c9' : w2.cell? ⟨w.heap.size + 1 + 1, 9, none⟩ = some (.int .i64 0) := by rw [cellAt (hb.trans HV.out)]; rfl
    have d0 : w2.heap[w.heap.size]? = some (.cells #[.string ⟨#[]⟩] 9 (0, 0)) := (b4.block _ (by omega)).trans HB0.out
    have d1 : w2.heap[w.heap.size + 1]? = some (.cells #[.nilIface] 49 (0, 0)) := (b4.block _ (by omega)).trans HB1.out
    have k0 : w2.cell? ⟨w.heap.size, 0, none⟩ = some (.string ⟨#[]⟩) := by rw [cellAt d0]; rfl
    have k1 : w2.cell? ⟨w.heap.size + 1, 0, none⟩ = some .nilIface := by rw [cellAt d1]; rfl
    have f0 : w2.frozen? ⟨w.heap.size, 0, none⟩ = false := Lib.frozen_of_heap d0 0
    have f1 : w2.frozen? ⟨w.heap.size + 1, 0, none⟩ = false := Lib.frozen_of_heap d1 0
    have b5 := Lib.hid (b3.out.trans (b4.mono (by omega)))
    have D0 := Lib.hid d0
    have D1 := Lib.hid d1
    clear d0 d1 b4 hb b3 HV HB0 HB1 BS
    go_wp2
    refine leaves_cons (f := 46) (args := #[.pointer (some ⟨w.heap.size, 0, none⟩), .pointer (some ⟨w.heap.size + 1, 0, none⟩)]) (by simp) (by simp [go_sem]) ?_
    refine (top_idle ⟨w.heap.size, 0, none⟩ ⟨w.heap.size + 1, 0, none⟩ _).mono ?_
    rintro e u' w'' ⟨rfl, rfl, rfl⟩
    have hx : ((R0 (c :: inp)).to [] o txt l).out = txt := rfl
    rw [hx]
    have E0 : (w2.setCell ⟨w.heap.size, 0, none⟩ (.string (bs txt))).cell? ⟨w.heap.size, 0, none⟩ = some (.string (bs txt)) := by rw [cellAt (setCell_heap D0.out 0 _)]; rfl
    have D1' : (w2.setCell ⟨w.heap.size, 0, none⟩ (.string (bs txt))).heap[w.heap.size + 1]? = some (.cells #[.nilIface] 49 (0, 0)) := by
      rw [Below.heap_setCell _ _ _ _ (by simp)]; exact D1.out
    have E1 : ((w2.setCell ⟨w.heap.size, 0, none⟩ (.string (bs txt))).setCell ⟨w.heap.size + 1, 0, none⟩ .nilIface).cell? ⟨w.heap.size + 1, 0, none⟩ = some .nilIface := by rw [cellAt (setCell_heap D1' 0 _)]; rfl
    simp [Leaves, settle, results, Tryz.results33, go_sem, E0, E1]
    exact (b5.out.setCell (p := ⟨w.heap.size, 0, none⟩) (Nat.le_refl _) _).setCell (p := ⟨w.heap.size + 1, 0, none⟩) (Nat.le_succ _) _
end Go.Proofs.YtdapnoocmpbijaaGreatDoor

/- impl.Told. -/
namespace Go.Proofs.YtdapnoocmpbijaaGreatDoor
open Go.RowKit

/-- No options. -/
abbrev noOpts : Value := .agg #[.bool false, .bool false, .bool false, .bool false, .bool false, .bool false, .bool false, .int .i64 0]

set_option maxHeartbeats 4000000 in
set_option maxRecDepth 100000 in
theorem list_none (w : World) : Calls Tryz.prog 25 #[noOpts] w fun e w' => e = .returned (.slice none 0 0) ∧ Below w.heap.size w w' := by
  go_enter Tryz.func25, Tryz.ntmps25
  go_wp2
  go_ret
  exact ⟨rfl, (Below.refl _ _).alloc (Nat.le_refl _) _⟩

/-- A whole name is read. -/
def ReadAs (s txt : List UInt8) : Prop := ∀ (B : Nat) (w : World), Tabs B w → B ≤ w.heap.size →
  Calls Tryz.prog 33 #[.string (bs s), .slice none 0 0] w fun e w' => e = .returned (.tuple #[.string (bs txt), .nilIface]) ∧ Below w.heap.size w w'

set_option maxHeartbeats 4000000 in
set_option maxRecDepth 100000 in
theorem told_any (s txt : List UInt8) (h : ReadAs s txt) (B : Nat) (w : World) (hT : Tabs B w) (hB : B ≤ w.heap.size) :
    Calls Tryz.prog 19 #[.string (bs s), noOpts] w fun e w' => e = .returned (.tuple #[.string (bs txt), .int .i64 0]) ∧ Below w.heap.size w w' := by
  have HH := Lib.hid h
  have HT := Lib.hid hT
  clear h hT
  go_enter Tryz.func19, Tryz.ntmps19
  go_wp2_with (go_at_call 25; refine (list_none _).mono ?_)
  rintro e w1 ⟨rfl, b1⟩
  have b2 := ((Below.refl w.heap.size w).alloc (Nat.le_refl _) _).trans (b1.mono (by simp))
  have T2 := Lib.hid (HT.out.same fun k hk => b2.block k (by omega))
  have B2 := Lib.hid b2
  have S2 := b2.size
  have S3 := Lib.hid (show B ≤ w1.heap.size by omega)
  clear b1 b2 S2
  go_wp2_with (first
    | (go_at_call 33; refine (HH.out B _ T2.out S3.out).mono ?_)
    | (go_at_call 24; go_in))
  rintro e w3 ⟨rfl, b3⟩
  have b4 := B2.out.trans (b3.mono B2.out.size)
  clear b3 T2
  go_wp2
  go_ret2
  exact ⟨rfl, b4⟩
end Go.Proofs.YtdapnoocmpbijaaGreatDoor

/- genericArg. -/
namespace Go.Proofs.YtdapnoocmpbijaaGreatDoor
open Go.RowKit

set_option maxHeartbeats 4000000 in
set_option maxRecDepth 100000 in
theorem genericArg_K (lb : Nat) (sk : Bool) (inp k txt : List UInt8) (G : Nat → Prop) (h : Says 103 #[] lb sk inp k txt G) : Says 110 #[] lb sk (75 :: inp) k txt G := by
  intro B b r w hr hsk hlb hi ho
  have c1 : w.cell? ⟨b, 1, none⟩ = some (.string (bs r.str)) := by obtain ⟨ad, buf, h'⟩ := hr; exact h'.c1
  rw [hi] at c1
  have HI := Lib.hid hi
  have HSK := Lib.hid hsk
  have HLB := Lib.hid hlb
  have A := At.start hr
  rw [hi] at A
  have HO := Lib.hid ho
  clear hi hsk hlb ho
  go_enter Tryz.func110, Tryz.ntmps110
  go_wp2_with fail
  refine (A.adv 75).mono ?_
  rintro e w1 ⟨rfl, A'⟩
  clear c1; clear A; have A := A'; clear A'
  go_wp2_with fail
  refine (A.says h HSK.out HLB.out (fun e => by simpa using HO.out e)).mono ?_
  rintro e w2 ⟨rfl, A'⟩
  clear A
  go_wp2
  go_end0
  exact A'.to rfl rfl |>.post HI.out (Kept.refl B w)

set_option maxHeartbeats 4000000 in
set_option maxRecDepth 100000 in
theorem genericArg_T (lb : Nat) (sk : Bool) (c : UInt8) (inp k txt : List UInt8) (G : Nat → Prop) (h : Says 85 #[] lb sk (c :: inp) k txt G) (hL : ((c.toNat : Int) == 76) = false) (hK : ((c.toNat : Int) == 75) = false) :
    Says 110 #[] lb sk (c :: inp) k txt G := by
  intro B b r w hr hsk hlb hi ho
  have c1 : w.cell? ⟨b, 1, none⟩ = some (.string (bs r.str)) := by obtain ⟨ad, buf, h'⟩ := hr; exact h'.c1
  rw [hi] at c1
  have HI := Lib.hid hi
  have HSK := Lib.hid hsk
  have HLB := Lib.hid hlb
  have A := At.start hr
  rw [hi] at A
  have HO := Lib.hid ho
  clear hi hsk hlb ho
  go_enter Tryz.func110, Tryz.ntmps110
  go_wp2_with fail
  refine (A.says h HSK.out HLB.out (fun e => by simpa using HO.out e)).mono ?_
  rintro e w2 ⟨rfl, A'⟩
  clear A c1
  go_wp2
  go_end0
  exact A'.to rfl rfl |>.post HI.out (Kept.refl B w)
end Go.Proofs.YtdapnoocmpbijaaGreatDoor

/- path at a crate, at generic arguments. -/
namespace Go.Proofs.YtdapnoocmpbijaaGreatDoor
open Go.RowKit

set_option maxHeartbeats 4000000 in
set_option maxRecDepth 100000 in
theorem path_C (sep : Bool) (lb : Nat) (sk : Bool) (inp k name txt : List UInt8) (n : Nat) (h : Names inp k n name) (hne : name ≠ []) (hl : (name.getLast hne).toNat ≠ 32)
    (htxt : txt = name) : Says 70 #[.bool sep] lb sk (67 :: inp) k txt NS := by
  intro B b r w hr hsk hlb hi ho
  have c1 : w.cell? ⟨b, 1, none⟩ = some (.string (bs r.str)) := by obtain ⟨ad, buf, h'⟩ := hr; exact h'.c1
  rw [hi] at c1
  have hlt := hr.lt
  have hln := hr.len
  rw [hi] at hln
  simp only [List.length_cons] at hln
  have ho' := ho
  rw [htxt] at ho'
  have HO := Lib.hid ho'
  clear ho ho'
  have HI := Lib.hid hi
  have HSK := Lib.hid hsk
  have HLB := Lib.hid hlb
  have HT := Lib.hid htxt
  clear hi hsk hlb htxt
  have A := At.start ((hr.alloc (.cells #[.pointer (some ⟨b, 0, none⟩)] 76)).alloc (.cells #[.bool sep] 4))
  obtain ⟨B0, B1⟩ := boxes2 w 76 4 (.pointer (some ⟨b, 0, none⟩)) (.bool sep)
  rw [HI.out] at A
  go_enter Tryz.func70, Tryz.ntmps70
  go_wp2_with fail
  refine (A.adv 67).mono ?_
  rintro e w1 ⟨rfl, A'⟩
  clear c1 hlt
  clear A; have A := A'; clear A'
  have cB0 := A.box B0 (by decide)
  go_wp2_with fail
  refine (h B b r _ _ _ _ A).mono ?_
  rintro e w2 ⟨rfl, A'⟩
  clear cB0
  clear A; have A := A'; clear A'
  have cB0 := A.box B0 (by decide)
  go_wp2_with fail
  refine (A.ws name hne (fun hs0 => by have ho' := HO.out hs0; simp at ho' ⊢; omega)).mono ?_
  rintro e w3 ⟨rfl, A'⟩
  clear cB0
  clear A; have A := A'; clear A'
  have cB0 := A.box B0 (by decide)
  clear cB0
  go_wp2_with fail
  go_end0
  exact (A.mono fun l e => by rw [e]; exact hl).to rfl (by rw [HT.out]; simp) |>.post HI.out (((Kept.refl B w).alloc _).alloc _)

set_option maxHeartbeats 4000000 in
set_option maxRecDepth 100000 in
theorem path_I_true (lb : Nat) (sk : Bool) (inp k1 k t1 t2 txt : List UInt8) (G1 G2 : Nat → Prop) (h1 : Says 70 #[.bool true] lb sk inp k1 t1 G1) (h2 : Says 87 #[] lb sk k1 (69 :: k) t2 G2)
    (htxt : txt = t1 ++ ([58, 58] ++ ([60] ++ (t2 ++ [62])))) : Says 70 #[.bool true] lb sk (73 :: inp) k txt NS := by
  intro B b r w hr hsk hlb hi ho
  have c1 : w.cell? ⟨b, 1, none⟩ = some (.string (bs r.str)) := by obtain ⟨ad, buf, h'⟩ := hr; exact h'.c1
  rw [hi] at c1
  have hlt := hr.lt
  have hln := hr.len
  rw [hi] at hln
  simp only [List.length_cons] at hln
  have ho' := ho
  rw [htxt] at ho'
  have HO := Lib.hid ho'
  clear ho ho'
  have HI := Lib.hid hi
  have HSK := Lib.hid hsk
  have HLB := Lib.hid hlb
  have HT := Lib.hid htxt
  clear hi hsk hlb htxt
  have A := At.start ((hr.alloc (.cells #[.pointer (some ⟨b, 0, none⟩)] 76)).alloc (.cells #[.bool true] 4))
  obtain ⟨B0, B1⟩ := boxes2 w 76 4 (.pointer (some ⟨b, 0, none⟩)) (.bool true)
  rw [HI.out] at A
  go_enter Tryz.func70, Tryz.ntmps70
  go_wp2_with fail
  refine (A.adv 73).mono ?_
  rintro e w1 ⟨rfl, A'⟩
  clear c1 hlt
  clear A; have A := A'; clear A'
  have cB0 := A.box B0 (by decide)
  have cB1 := A.box B1 (by decide)
  go_wp2_with fail
  refine (A.says h1 HSK.out HLB.out (fun hs0 => by have ho' := HO.out hs0; simp at ho' ⊢; omega)).mono ?_
  rintro e w2 ⟨rfl, A'⟩
  clear cB0 cB1
  clear A; have A := A'; clear A'
  have cB0 := A.box B0 (by decide)
  have cB1 := A.box B1 (by decide)
  go_wp2_with fail
  refine (A.ws [58, 58] (by simp) (fun hs0 => by have ho' := HO.out hs0; simp at ho' ⊢; omega)).mono ?_
  rintro e w3 ⟨rfl, A'⟩
  clear cB0 cB1
  clear A; have A := A'; clear A'
  have cB0 := A.box B0 (by decide)
  go_wp2_with fail
  refine (A.wb 60 60 rfl (fun hs0 => by have ho' := HO.out hs0; simp at ho' ⊢; omega)).mono ?_
  rintro e w4 ⟨rfl, A'⟩
  clear cB0
  clear A; have A := A'; clear A'
  have cB0 := A.box B0 (by decide)
  go_wp2_with fail
  refine (A.says h2 HSK.out HLB.out (fun hs0 => by have ho' := HO.out hs0; simp at ho' ⊢; omega)).mono ?_
  rintro e w5 ⟨rfl, A'⟩
  clear cB0
  clear A; have A := A'; clear A'
  have cB0 := A.box B0 (by decide)
  go_wp2_with fail
  refine (A.wb 62 62 rfl (fun hs0 => by have ho' := HO.out hs0; simp at ho' ⊢; omega)).mono ?_
  rintro e w6 ⟨rfl, A'⟩
  clear cB0
  clear A; have A := A'; clear A'
  have cB0 := A.box B0 (by decide)
  go_wp2_with fail
  refine (A.chk 69 69 rfl).mono ?_
  rintro e w7 ⟨rfl, A'⟩
  clear cB0
  clear A; have A := A'; clear A'
  have cB0 := A.box B0 (by decide)
  clear cB0
  go_wp2_with fail
  go_end0
  exact (A.mono fun l e => by rw [e]; decide).to rfl (by rw [HT.out]; simp) |>.post HI.out (((Kept.refl B w).alloc _).alloc _)

set_option maxHeartbeats 4000000 in
set_option maxRecDepth 100000 in
theorem path_I_false (lb : Nat) (sk : Bool) (inp k1 k t1 t2 txt : List UInt8) (G1 G2 : Nat → Prop) (h1 : Says 70 #[.bool false] lb sk inp k1 t1 G1) (h2 : Says 87 #[] lb sk k1 (69 :: k) t2 G2)
    (htxt : txt = t1 ++ (([60] ++ (t2 ++ [62])))) : Says 70 #[.bool false] lb sk (73 :: inp) k txt NS := by
  intro B b r w hr hsk hlb hi ho
  have c1 : w.cell? ⟨b, 1, none⟩ = some (.string (bs r.str)) := by obtain ⟨ad, buf, h'⟩ := hr; exact h'.c1
  rw [hi] at c1
  have hlt := hr.lt
  have hln := hr.len
  rw [hi] at hln
  simp only [List.length_cons] at hln
  have ho' := ho
  rw [htxt] at ho'
  have HO := Lib.hid ho'
  clear ho ho'
  have HI := Lib.hid hi
  have HSK := Lib.hid hsk
  have HLB := Lib.hid hlb
  have HT := Lib.hid htxt
  clear hi hsk hlb htxt
  have A := At.start ((hr.alloc (.cells #[.pointer (some ⟨b, 0, none⟩)] 76)).alloc (.cells #[.bool false] 4))
  obtain ⟨B0, B1⟩ := boxes2 w 76 4 (.pointer (some ⟨b, 0, none⟩)) (.bool false)
  rw [HI.out] at A
  go_enter Tryz.func70, Tryz.ntmps70
  go_wp2_with fail
  refine (A.adv 73).mono ?_
  rintro e w1 ⟨rfl, A'⟩
  clear c1 hlt
  clear A; have A := A'; clear A'
  have cB0 := A.box B0 (by decide)
  have cB1 := A.box B1 (by decide)
  go_wp2_with fail
  refine (A.says h1 HSK.out HLB.out (fun hs0 => by have ho' := HO.out hs0; simp at ho' ⊢; omega)).mono ?_
  rintro e w2 ⟨rfl, A'⟩
  clear cB0 cB1
  clear A; have A := A'; clear A'
  have cB0 := A.box B0 (by decide)
  have cB1 := A.box B1 (by decide)
  go_wp2_with fail
  refine (A.wb 60 60 rfl (fun hs0 => by have ho' := HO.out hs0; simp at ho' ⊢; omega)).mono ?_
  rintro e w3 ⟨rfl, A'⟩
  clear cB0 cB1
  clear A; have A := A'; clear A'
  have cB0 := A.box B0 (by decide)
  go_wp2_with fail
  refine (A.says h2 HSK.out HLB.out (fun hs0 => by have ho' := HO.out hs0; simp at ho' ⊢; omega)).mono ?_
  rintro e w4 ⟨rfl, A'⟩
  clear cB0
  clear A; have A := A'; clear A'
  have cB0 := A.box B0 (by decide)
  go_wp2_with fail
  refine (A.wb 62 62 rfl (fun hs0 => by have ho' := HO.out hs0; simp at ho' ⊢; omega)).mono ?_
  rintro e w5 ⟨rfl, A'⟩
  clear cB0
  clear A; have A := A'; clear A'
  have cB0 := A.box B0 (by decide)
  go_wp2_with fail
  refine (A.chk 69 69 rfl).mono ?_
  rintro e w6 ⟨rfl, A'⟩
  clear cB0
  clear A; have A := A'; clear A'
  have cB0 := A.box B0 (by decide)
  clear cB0
  go_wp2_with fail
  go_end0
  exact (A.mono fun l e => by rw [e]; decide).to rfl (by rw [HT.out]; simp) |>.post HI.out (((Kept.refl B w).alloc _).alloc _)
end Go.Proofs.YtdapnoocmpbijaaGreatDoor

/- genericArgs: one argument behind the other. -/
namespace Go.Proofs.YtdapnoocmpbijaaGreatDoor
open Go.RowKit

/-- Parts one behind the other, up to an E. -/
inductive Run (f : FuncId) (lb : Nat) (sk : Bool) : List UInt8 → List UInt8 → List (List UInt8) → Prop
  | nil (k : List UInt8) : Run f lb sk (69 :: k) (69 :: k) []
  | cons (c : UInt8) (l k1 k t : List UInt8) (ts : List (List UInt8)) (hc : c.toNat ≠ 69) (h : Says f #[] lb sk (c :: l) k1 t T0) (r : Run f lb sk k1 k ts) : Run f lb sk (c :: l) k (t :: ts)

set_option maxHeartbeats 4000000 in
set_option maxRecDepth 100000 in
theorem genericArgs_any (lb : Nat) (sk : Bool) (inp k txt : List UInt8) (ts : List (List UInt8)) (h : Run 110 lb sk inp (69 :: k) ts) (htxt : txt = joined [44, 32] ts) :
    Says 87 #[] lb sk inp (69 :: k) txt T0 := by
  intro B b r w hr hsk hlb hi ho
  have c8 : w.cell? ⟨b, 8, none⟩ = some (.bool false) := by obtain ⟨ad, buf, h'⟩ := hr; exact h'.c8
  have hlt := hr.lt
  have A := At.start (hr.alloc (.cells #[.pointer (some ⟨b, 0, none⟩)] 76))
  have B0 := Box.new w 76 (.pointer (some ⟨b, 0, none⟩))
  rw [hi] at A
  have HI := Lib.hid hi
  have HSK := Lib.hid hsk
  have HLB := Lib.hid hlb
  have HO := Lib.hid ho
  have HT := Lib.hid htxt
  have HR := Lib.hid h
  clear hi hsk hlb htxt ho h
  go_enter Tryz.func87, Tryz.ntmps87
  go_wp2_with fail
  go_loopg [3] (ts.length + 1) (fun n f wr => ∃ (first : Bool) (inp' txt' : List UInt8) (ts' : List (List UInt8)), n = ts'.length + 1 ∧ f = .bool first ∧ Run 110 lb sk inp' (69 :: k) ts' ∧
    txt = txt' ++ (if first then joined [44, 32] ts' else tailText [44, 32] ts') ∧ At B b r (w.alloc (.cells #[.pointer (some ⟨b, 0, none⟩)] 76)) inp' txt' T0 wr)
  case atStart => exact ⟨true, inp, [], ts, rfl, rfl, HR.out, HT.out, A.mono fun _ _ => trivial⟩
  case round =>
    obtain ⟨first, inp', txt', ts', rfl, rfl, hrun, htx, A⟩ := hrel
    clear c8 hlt
    cases hrun with
    | nil =>
      have cB0 := A.box B0 (by decide)
      have Ac1 := A.c1
      have Aln := A.len.2
      simp only [List.length_cons] at Aln
      have HTX := Lib.hid htx
      clear htx
      go_wp2_with fail
      go_end0
      exact (A.to rfl (by rw [HTX.out]; cases first <;> simp [joined, tailText])).post HI.out ((Kept.refl B w).alloc _)
    | cons c l k1 _ t ts2 hc hs hrun =>
      have cB0 := A.box B0 (by decide)
      have Ac1 := A.c1
      have Aln := A.len.2
      simp only [List.length_cons] at Aln
      have hc' : ((c.toNat : Int) != 69) = true := by simp; omega
      have HTX := Lib.hid htx
      have HRUN := Lib.hid hrun
      clear htx hc hrun
      cases first with
      | true =>
        go_wp2_with fail
        refine (A.says hs HSK.out HLB.out ?_).mono ?_
        · intro hs0; have a := HO.out hs0; rw [HTX.out] at a; simp [joined] at a ⊢; omega
        rintro e w1 ⟨rfl, A'⟩
        go_wp2_with fail
        go_roundg (ts2.length + 1)
        case measure => simp
        case rel => exact ⟨false, k1, txt' ++ t, ts2, rfl, rfl, HRUN.out, by rw [HTX.out]; simp [joined], A'⟩
      | false =>
        go_wp2_with fail
        refine (A.ws [44, 32] (by simp) ?_).mono ?_
        · intro hs0; have a := HO.out hs0; rw [HTX.out] at a; simp [tailText] at a ⊢; omega
        rintro e w1 ⟨rfl, A'⟩
        clear cB0 Ac1
        have cB0 := A'.box B0 (by decide)
        go_wp2_with fail
        refine (A'.says hs HSK.out HLB.out ?_).mono ?_
        · intro hs0; have a := HO.out hs0; rw [HTX.out] at a; simp [tailText] at a ⊢; omega
        rintro e w2 ⟨rfl, A''⟩
        go_wp2_with fail
        go_roundg (ts2.length + 1)
        case measure => simp
        case rel => exact ⟨false, k1, txt' ++ [44, 32] ++ t, ts2, rfl, rfl, HRUN.out, by rw [HTX.out]; simp [tailText], A''⟩
end Go.Proofs.YtdapnoocmpbijaaGreatDoor

/- Generic arguments of the crate m, read as a whole name. -/
namespace Go.Proofs.YtdapnoocmpbijaaGreatDoor
open Go.RowKit

theorem path_m (lb : Nat) (sk : Bool) (k : List UInt8) : Says 70 #[.bool true] lb sk (67 :: 49 :: 109 :: k) k [109] NS := by
  have hu : Undis ([49] ++ ([] ++ (109 :: k))) ((109 :: k).drop 1) ((109 :: k).take 1) false := by
    refine undis_mk 1 [49] [] (109 :: k) (by simp) ?_ (by decide) ?_ (by simp) (by decide) (.inr ⟨rfl, ?_, ?_⟩)
    · intro c hc; simp at hc; subst hc; decide
    · intro j hj hj2
      obtain rfl : j = 0 := by omega
      exact .inr (.inr (.inl (by show 97 ≤ (109 : UInt8).toNat ∧ (109 : UInt8).toNat ≤ 122; decide)))
    · intro c hc; simp at hc; subst hc; decide
    · intro c hc; simp at hc; subst hc; decide
  have hn : Names (49 :: 109 :: k) k 0 [109] := by
    have := names_mk 0 _ _ _ _ hu (by decide) ⟨49, 109 :: k, rfl, by decide⟩
    simpa [dis] using this
  exact path_C true lb sk (49 :: 109 :: k) k [109] [109] 0 hn (by simp) (by decide) rfl

/-- The name of the crate m with generic arguments, spelled. -/
def nameOf (p : List UInt8) : List UInt8 := 95 :: 82 :: 73 :: 67 :: 49 :: 109 :: (p ++ [69])
/-- What is told of it. -/
def toldOf (t : List UInt8) : List UInt8 := [109, 58, 58, 60] ++ (t ++ [62])

theorem read_args (p txt : List UInt8) (ts : List (List UInt8)) (h : Run 110 0 false (p ++ [69]) [69] ts) (htxt : txt = joined [44, 32] ts) (hp : ∀ x ∈ p, x ≠ 46) (hl : p.length ≤ 10000000) (hl2 : txt.length ≤ 100000000) :
    ReadAs (nameOf p) (toldOf txt) := by
  intro B w hT hB
  refine toString_any 73 (67 :: 49 :: 109 :: (p ++ [69])) (toldOf txt) NS ?_ (by decide) ?_ (by simp; omega) (by simp [toldOf]) (by simp [toldOf]; omega) B w hT hB
  · refine path_I_true 0 false (67 :: 49 :: 109 :: (p ++ [69])) (p ++ [69]) [] [109] txt _ NS T0 (path_m 0 false (p ++ [69])) (genericArgs_any 0 false (p ++ [69]) [] txt ts h htxt) ?_
    simp [toldOf]
  · intro x hx
    simp only [List.mem_cons, List.mem_append, List.not_mem_nil, or_false] at hx
    rcases hx with rfl | rfl | rfl | rfl | rfl | rfl | hx | rfl
    all_goals first
      | decide
      | exact hp x hx
end Go.Proofs.YtdapnoocmpbijaaGreatDoor

/- laws: rustOf, rustArgumentIs, rustArgument. -/
namespace Go.Proofs.YtdapnoocmpbijaaGreatDoor
open Go.RowKit

set_option maxHeartbeats 1000000 in
set_option maxRecDepth 100000 in
theorem rustOf_any (p : List UInt8) (hl : p.length ≤ 10000000) (w : World) : Calls Tryz.prog 20 #[.string (bs p)] w fun e w' => e = .returned (.string (bs (nameOf p))) ∧ w' = w := by
  have e1 : (⟨#[95, 82, 73, 67, 49, 109]⟩ : ByteArray) ++ bs p = bs ([95, 82, 73, 67, 49, 109] ++ p) := by rw [← bs_append]; rfl
  have e2 : bs (95 :: 82 :: 73 :: 67 :: 49 :: 109 :: p) ++ (⟨#[69]⟩ : ByteArray) = bs (nameOf p) := by
    show bs ([95, 82, 73, 67, 49, 109] ++ p) ++ (⟨#[69]⟩ : ByteArray) = _
    rw [show (⟨#[69]⟩ : ByteArray) = bs [69] from rfl, bs_append]; rfl
  have h1 : ¬ 9223372036854775807 < 6 + p.length := by omega
  have h2 : ¬ 9223372036854775807 < p.length + 6 + 1 := by omega
  go_enter Tryz.func20, Tryz.ntmps20
  go_wp2
  go_ret
  exact ⟨congrArg (fun b => Ending.returned (.string b)) e2, rfl⟩

set_option maxHeartbeats 2000000 in
set_option maxRecDepth 100000 in
/-- An argument that is told as a text is told as it. -/
theorem argumentIs_any (p txt : List UInt8) (hl : p.length ≤ 10000000) (hl2 : txt.length ≤ 100000000) (h : ReadAs (nameOf p) (toldOf txt)) (B : Nat) (w : World) (hT : Tabs B w) (hB : B ≤ w.heap.size) :
    Calls Tryz.prog 17 #[.string (bs p), .string (bs txt)] w fun e w' => e = .returned (.bool true) ∧ Below w.heap.size w w' := by
  have HO := Lib.hid (fun w => rustOf_any p hl w)
  have HD := Lib.hid (told_any _ _ h B w hT hB)
  have e1 : (⟨#[109, 58, 58, 60]⟩ : ByteArray) ++ bs txt = bs (109 :: 58 :: 58 :: 60 :: txt) := by rw [show (⟨#[109, 58, 58, 60]⟩ : ByteArray) = bs [109, 58, 58, 60] from rfl, bs_append]; rfl
  have e2 : bs (109 :: 58 :: 58 :: 60 :: txt) ++ (⟨#[62]⟩ : ByteArray) = bs (toldOf txt) := by
    rw [show (⟨#[62]⟩ : ByteArray) = bs [62] from rfl, bs_append]; rfl
  have h1 : ¬ 9223372036854775807 < 4 + txt.length := by omega
  clear h hT hB
  go_enter Tryz.func17, Tryz.ntmps17
  go_wp2_with (first
    | (go_at_call 20; refine (HO.out _).mono ?_; rintro e w' ⟨rfl, rfl⟩)
    | (go_at_call 19; refine HD.out.mono ?_))
  rintro e w1 ⟨rfl, b1⟩
  go_wp2
  go_ret
  refine ⟨?_, b1⟩
  first | rfl | simp

set_option maxHeartbeats 2000000 in
set_option maxRecDepth 100000 in
/-- An argument, told by itself. -/
theorem argument_any (p txt : List UInt8) (hl : p.length ≤ 10000000) (hl2 : txt.length ≤ 100000000) (h : ReadAs (nameOf p) (toldOf txt)) (B : Nat) (w : World) (hT : Tabs B w) (hB : B ≤ w.heap.size) :
    Calls Tryz.prog 15 #[.string (bs p)] w fun e w' => e = .returned (.tuple #[.string (bs txt), .bool true]) ∧ Below w.heap.size w w' := by
  have HO := Lib.hid (fun w => rustOf_any p hl w)
  have HD := Lib.hid (told_any _ _ h B w hT hB)
  have hln : (toldOf txt).length = txt.length + 5 := by simp [toldOf]
  have e1 : (bs (toldOf txt)).extract 0 4 = ⟨#[109, 58, 58, 60]⟩ := by rw [bs_take]; rfl
  have e2 : (bs (toldOf txt)).extract 4 (txt.length + 5 - 1) = bs txt := by
    rw [bs_extract, show txt.length + 5 - 1 - 4 = txt.length by omega]
    simp [toldOf]
  have e3 : ((((toldOf txt)[txt.length + 4]'(by rw [hln]; omega)).toNat : Int) != 62) = false := by
    have : (toldOf txt)[txt.length + 4]'(by rw [hln]; omega) = 62 := by simp [toldOf]
    rw [this]; decide
  have e4 : decide ((txt.length : Int) + 5 < 5) = false := by simp; omega
  have E2 := Lib.hid e2
  clear e2
  clear h hT hB
  go_enter Tryz.func15, Tryz.ntmps15
  go_wp2_with (first
    | (go_at_call 20; refine (HO.out _).mono ?_; rintro e w' ⟨rfl, rfl⟩)
    | (go_at_call 19; refine HD.out.mono ?_))
  rintro e w1 ⟨rfl, b1⟩
  go_wp2
  go_ret2
  refine ⟨?_, b1⟩
  rw [E2.out]
  rfl
end Go.Proofs.YtdapnoocmpbijaaGreatDoor

/- Plain words on constants. -/
namespace Go.Proofs.YtdapnoocmpbijaaGreatDoor

/-- The letters of the kinds of numbers. -/
def isSg (c : Nat) : Prop := c = 97 ∨ c = 115 ∨ c = 108 ∨ c = 120 ∨ c = 110 ∨ c = 105
def isUn (c : Nat) : Prop := c = 104 ∨ c = 116 ∨ c = 109 ∨ c = 121 ∨ c = 111 ∨ c = 106

/-- The kinds of constants, as the reader numbers them. -/
def KindOk (K : Nat) (c : UInt8) (n : Nat) (neg : Bool) : Prop :=
  (K = 1 ∧ isSg c.toNat) ∨ (K = 2 ∧ isUn c.toNat ∧ neg = false) ∨ (K = 3 ∧ c.toNat = 98 ∧ neg = false ∧ n ≤ 1) ∨
    (K = 4 ∧ c.toNat = 99 ∧ neg = false ∧ 32 ≤ n ∧ n ≤ 126 ∧ n ≠ 39 ∧ n ≠ 92)
def negText (neg : Bool) : List UInt8 := if neg then [45] else []
def negCode (neg : Bool) : List UInt8 := if neg then [110] else []
def constText (K n : Nat) : List UInt8 :=
  if K = 3 then (if n = 0 then [102, 97, 108, 115, 101] else [116, 114, 117, 101]) else if K = 4 then [39, UInt8.ofNat n, 39] else Lib.decDigits n

end Go.Proofs.YtdapnoocmpbijaaGreatDoor

