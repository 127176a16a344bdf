/- zzRun, ZZConst, impl.Constant. -/
import Derived.Test.YtlpbhfmhndhbkaaGreatDoorSays
import Derived.Test.YtlpbhfmhndhbkaaGreatDoorTop
import Derived.Deep.RegionWith
import Derived.Deep.DeepCutAuto
import Derived.Deep.CutRange
import Derived.Deep.CutBlock
import Derived.StillTailTactics
namespace Go.Proofs.YtlpbhfmhndhbkaaGreatDoor
open Go.RowKit

theorem zz_idle (p q s : Addr) (w : World) :
    CallsD Tryz.prog 47 #[.pointer (some p), .pointer (some q), .pointer (some s)] .returning w fun e u' w' => e = .returned (.tuple #[]) ∧ u' = .returning ∧ w' = w := by
  refine callsD_of_wpS Tryz.func47 rfl fun c₀ cs hu => ?_
  apply wpS_seq
  apply wpS_region
  simp [wpOpsS, go_sem, recoverD, hu, Tryz.ntmps47, Exit.thenS]
  apply wpS_seq
  apply wpS_region
  simp [wpOpsS, go_sem, Exit.thenS]
  refine wpS_cond (t := false) (by simp [Act.eval]) ?_
  simp only [Bool.false_eq_true, if_false]
  refine wpS_of_wp (wp_skip ?_)
  cases c₀
  simp_all [bodyPostS, results, Tryz.results47]

set_option maxHeartbeats 1000000 in
theorem const_fn (lb : Nat) (sk : Bool) (inp k txt : List UInt8) (G : Nat → Prop) (h : Says 33 #[] lb sk inp k txt G) : Says 32 #[] lb sk inp k txt G := by
  intro B b r w hr hsk hlb hi ho
  have HH := Lib.hid (h B b r w hr hsk hlb hi ho)
  clear h hr hsk hlb hi ho
  go_enter Tryz.func32, Tryz.ntmps32
  go_wp2_with (go_at_call 33; refine HH.out.mono ?_)
  rintro e w1 ⟨rfl, P⟩
  have P := Lib.hid P
  go_wp2
  go_end0
  exact ⟨rfl, P.out⟩

/-- A body that is left by a return alone. -/
theorem wp_ret_only {P : Program} {c : Code} {Q : Exit → Act → World → Prop} {a : Act} {w : World} (h : c.wp P (fun e a w => match e with | .ret => Q .ret a w | _ => False) a w) : c.wp P Q a w :=
  Code.wp_mono (fun e a w h => by cases e <;> first | exact h | exact h.elim) h

set_option maxHeartbeats 4000000 in
set_option maxRecDepth 100000 in
theorem zzRun_const (inp txt : List UInt8) (G : Nat → Prop) (h : Says 33 #[] 0 false inp [] txt G) (hlen : inp.length ≤ 100000000) (ht : txt ≠ []) (htl : txt.length ≤ 1000000000) (B : Nat) (w : World) (hT : Tabs B w) (hB : B ≤ w.heap.size) :
    Calls Tryz.prog 31 #[.string (bs inp), .func (.func 32) #[] #[]] w fun e w' => e = .returned (.tuple #[.string (bs txt), .string (bs []), .nilIface]) ∧ Below w.heap.size w w' := by
  have hmf : ∀ (fn : Fn) (first cap : Array Value) (w : World), (Instr.makeFunc fn first cap).run Tryz.prog w = .ok (.func fn first cap) w := fun _ _ _ _ => rfl
  have b1 : Below w.heap.size w (((w.alloc (.cells #[.string ⟨#[]⟩] 9)).alloc (.cells #[.string ⟨#[]⟩] 9)).alloc (.cells #[.nilIface] 49)) := (((Below.refl _ _).alloc (Nat.le_refl _) _).alloc (by simp) _).alloc (by simp <;> omega) _
  have F := Rst.fresh (hT.same fun k hk => (b1.mono hB).block k hk) (by simp; omega : B ≤ (((w.alloc (.cells #[.string ⟨#[]⟩] 9)).alloc (.cells #[.string ⟨#[]⟩] 9)).alloc (.cells #[.nilIface] 49)).heap.size) inp (by omega)
  have b2 := Lib.hid (b1.alloc (by simp; omega) (.cells ((R0 inp).cs (.pointer none) (.slice none 0 0)) tR))
  have e1 : (((w.alloc (.cells #[.string ⟨#[]⟩] 9)).alloc (.cells #[.string ⟨#[]⟩] 9)).alloc (.cells #[.nilIface] 49)).heap.size = w.heap.size + 1 + 1 + 1 := by simp
  rw [e1] at F
  have A := Lib.hid (At.start F)
  have HS := Lib.hid (const_fn 0 false inp [] txt G h)
  have TL := Lib.hid htl
  have TN := Lib.hid ht
  clear h hT hB b1 e1 F htl ht
  go_enter_defers Tryz.func31, Tryz.ntmps31
  refine wp_ret_only ?_
  go_wp2_with (go_at_call 32; refine (At.says HS.out A.out rfl rfl (fun _ => by simpa [R0] using TL.out)).mono ?_)
  rintro e w1 ⟨rfl, A1⟩
  have A1' := A1
  obtain ⟨o, l, _, _, H, K⟩ := A1'
  have BS := Lib.hid (fun wx (h : Rst (w.heap.size + 1 + 1 + 1) (w.heap.size + 1 + 1 + 1) ((R0 inp).to [] o txt l) wx) => bString _ _ _ wx h (show ((R0 inp).to [] o txt l).out ≠ [] by simpa [R0, RS.to] using TN.out))
  have HR := Lib.hid H
  obtain ⟨ad, buf, V⟩ := H
  have b3 := Lib.hid (b2.out.trans ((K.below (by simp)).mono (by omega)))
  have HV := Lib.hid V.heap
  have hb0 : w1.heap[w.heap.size]? = some (.cells #[.string ⟨#[]⟩] 9 (0, 0)) := by
    rw [K.block _ (by simp <;> omega) (.inl (by omega)), Below.heap_alloc _ _ _ (by simp <;> omega), Below.heap_alloc _ _ _ (by simp <;> omega), Below.heap_alloc _ _ _ (by simp)]
    exact heap_alloc_new w _
  have hb1 : w1.heap[w.heap.size + 1]? = some (.cells #[.string ⟨#[]⟩] 9 (0, 0)) := by
    rw [K.block _ (by simp <;> omega) (.inl (by omega)), Below.heap_alloc _ _ _ (by simp <;> omega), Below.heap_alloc _ _ _ (by simp)]
    have := heap_alloc_new (w.alloc (.cells #[.string ⟨#[]⟩] 9)) (.cells #[.string ⟨#[]⟩] 9)
    simpa using this
  have hb2 : w1.heap[w.heap.size + 1 + 1]? = some (.cells #[.nilIface] 49 (0, 0)) := by
    rw [K.block _ (by simp) (.inl (by omega)), Below.heap_alloc _ _ _ (by simp)]
    have := heap_alloc_new ((w.alloc (.cells #[.string ⟨#[]⟩] 9)).alloc (.cells #[.string ⟨#[]⟩] 9)) (.cells #[.nilIface] 49)
    simpa using this
  have FACT : Hid (∀ wx w2, (wx = w1 ∨ wx = w1.drew) → Below (w.heap.size + 1 + 1 + 1) wx w2 → w2.heap[w.heap.size + 1 + 1 + 1]? = wx.heap[w.heap.size + 1 + 1 + 1]? →
      w2.heap[w.heap.size]? = some (.cells #[.string ⟨#[]⟩] 9 (0, 0)) ∧ w2.heap[w.heap.size + 1]? = some (.cells #[.string ⟨#[]⟩] 9 (0, 0)) ∧ w2.heap[w.heap.size + 1 + 1]? = some (.cells #[.nilIface] 49 (0, 0)) ∧
      w2.cell? ⟨w.heap.size + 1 + 1 + 1, 1, none⟩ = some (.string (bs [])) ∧ Below w.heap.size w w2) := by
    intro wx w2 hx hb hh
    have e : wx.heap = w1.heap := by rcases hx with rfl | rfl <;> rfl
    have hbx : Below (w.heap.size + 1 + 1 + 1) w1 w2 := by
      rcases hx with rfl | rfl
      · exact hb
      · exact ⟨hb.os, hb.tape, hb.output, hb.size, hb.block⟩
    refine ⟨(hbx.block _ (by omega)).trans hb0, (hbx.block _ (by omega)).trans hb1, (hbx.block _ (by omega)).trans hb2, ?_, b3.out.trans (hbx.mono (by omega))⟩
    rw [cellAt ((hh.trans (by rw [e])).trans HV.out)]
    rfl
  have c1 : w1.cell? ⟨w.heap.size + 1 + 1 + 1, 1, none⟩ = some (.string (bs [])) := by rw [cellAt HV.out]; rfl
  have FIN : Hid (∀ w2 : World, w2.heap[w.heap.size]? = some (.cells #[.string ⟨#[]⟩] 9 (0, 0)) → w2.heap[w.heap.size + 1]? = some (.cells #[.string ⟨#[]⟩] 9 (0, 0)) → w2.heap[w.heap.size + 1 + 1]? = some (.cells #[.nilIface] 49 (0, 0)) →
      Below w.heap.size w w2 →
      (((w2.setCell ⟨w.heap.size, 0, none⟩ (.string (bs ((R0 inp).to [] o txt l).out))).setCell ⟨w.heap.size + 1, 0, none⟩ (.string (bs []))).setCell ⟨w.heap.size + 1 + 1, 0, none⟩ .nilIface).cell? ⟨w.heap.size, 0, none⟩ = some (.string (bs txt)) ∧
      (((w2.setCell ⟨w.heap.size, 0, none⟩ (.string (bs ((R0 inp).to [] o txt l).out))).setCell ⟨w.heap.size + 1, 0, none⟩ (.string (bs []))).setCell ⟨w.heap.size + 1 + 1, 0, none⟩ .nilIface).cell? ⟨w.heap.size + 1, 0, none⟩ = some (.string (bs [])) ∧
      (((w2.setCell ⟨w.heap.size, 0, none⟩ (.string (bs ((R0 inp).to [] o txt l).out))).setCell ⟨w.heap.size + 1, 0, none⟩ (.string (bs []))).setCell ⟨w.heap.size + 1 + 1, 0, none⟩ .nilIface).cell? ⟨w.heap.size + 1 + 1, 0, none⟩ = some .nilIface ∧
      Below w.heap.size w (((w2.setCell ⟨w.heap.size, 0, none⟩ (.string (bs ((R0 inp).to [] o txt l).out))).setCell ⟨w.heap.size + 1, 0, none⟩ (.string (bs []))).setCell ⟨w.heap.size + 1 + 1, 0, none⟩ .nilIface)) := by
    intro w2 d0 d1 d2 b5
    have hx : ((R0 inp).to [] o txt l).out = txt := rfl
    rw [hx]
    refine ⟨?_, ?_, ?_, ((b5.setCell (p := ⟨w.heap.size, 0, none⟩) (Nat.le_refl _) _).setCell (p := ⟨w.heap.size + 1, 0, none⟩) (by simp) _).setCell (p := ⟨w.heap.size + 1 + 1, 0, none⟩) (by simp; omega) _⟩
    · have e1 := setCell_heap d0 0 (.string (bs txt))
      rw [cellAt (cs := #[.string (bs txt)]) (T := 9) (fr := (0, 0)) ?_]
      · rfl
      · rw [Below.heap_setCell _ _ _ _ (by simp <;> omega), Below.heap_setCell _ _ _ _ (by simp <;> omega), e1]; rfl
    · have e1 : (w2.setCell ⟨w.heap.size, 0, none⟩ (.string (bs txt))).heap[w.heap.size + 1]? = _ := (Below.heap_setCell _ _ _ _ (by simp <;> omega)).trans d1
      have e2 := setCell_heap e1 0 (.string (bs []))
      rw [cellAt (cs := #[.string (bs [])]) (T := 9) (fr := (0, 0)) ?_]
      · rfl
      · rw [Below.heap_setCell _ _ _ _ (by simp <;> omega), e2]; rfl
    · have e1 : ((w2.setCell ⟨w.heap.size, 0, none⟩ (.string (bs txt))).setCell ⟨w.heap.size + 1, 0, none⟩ (.string (bs []))).heap[w.heap.size + 1 + 1]? = _ := (Below.heap_setCell _ _ _ _ (by simp <;> omega)).trans ((Below.heap_setCell _ _ _ _ (by simp <;> omega)).trans d2)
      rw [cellAt (setCell_heap e1 0 .nilIface)]; rfl
  clear A1 V K A b2 hb0 hb1 hb2
  go_wp2_with fail
  go_region_with (go_at_call 48; refine (BS.out _ ?_).mono ?_; (first | exact HR.out | exact HR.out.drew); rintro e w2 ⟨rfl, b4, hb⟩; obtain ⟨d0, d1, d2, c1', b5⟩ := FACT.out _ _ (by first | exact .inl rfl | exact .inr rfl) b4 hb; have k0 := cellAt d0 0; have k1 := cellAt d1 0; have k2 := cellAt d2 0; have f0 := Lib.frozen_of_heap d0 0; have f1 := Lib.frozen_of_heap d1 0; have f2 := Lib.frozen_of_heap d2 0; simp at k0 k1 k2)
  all_goals go_wp2
  all_goals refine leaves_cons (f := 47) (args := #[.pointer (some ⟨w.heap.size, 0, none⟩), .pointer (some ⟨w.heap.size + 1, 0, none⟩), .pointer (some ⟨w.heap.size + 1 + 1, 0, none⟩)]) (by simp) (by simp [go_sem]) ?_
  all_goals refine (zz_idle ⟨w.heap.size, 0, none⟩ ⟨w.heap.size + 1, 0, none⟩ ⟨w.heap.size + 1 + 1, 0, none⟩ _).mono ?_
  all_goals rintro e u' w'' ⟨rfl, rfl, rfl⟩
  all_goals obtain ⟨E0, E1, E2, bf⟩ := FIN.out w2 d0 d1 d2 b5
  all_goals simp [Leaves, settle, results, Tryz.results31, go_sem, E0, E1, E2]
  all_goals exact bf
end Go.Proofs.YtlpbhfmhndhbkaaGreatDoor
