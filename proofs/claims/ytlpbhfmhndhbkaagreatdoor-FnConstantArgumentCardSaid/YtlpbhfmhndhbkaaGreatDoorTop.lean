/- rustToString. -/
import Derived.Test.YtlpbhfmhndhbkaaGreatDoorSym
import Derived.Test.YtlpbhfmhndhbkaaGreatDoorBStr
import Derived.Test.YtlpbhfmhndhbkaaGreatDoorIdx
import Derived.Test.YtlpbhfmhndhbkaaGreatDoorShelf
import Derived.Test.YtlpbhfmhndhbkaaGreatDoorIdle
namespace Go.Proofs.YtlpbhfmhndhbkaaGreatDoor
open Go.RowKit

/-- A reader that begins. -/
def R0 (str : List UInt8) : RS := ⟨str, str, 0, [], false, 0, 0⟩

theorem Rst.fresh {B : Nat} {w : World} (ht : Tabs B w) (hB : B ≤ w.heap.size) (str : List UInt8) (hl : str.length ≤ 1000000000) :
    Rst w.heap.size w.heap.size (R0 str) (w.alloc (.cells ((R0 str).cs (.pointer none) (.slice none 0 0)) tR)) := by
  refine ⟨.pointer none, .slice none 0 0, ⟨Nat.le_refl _, by simp, by simpa [R0] using hl, ?_, heap_alloc_new w _, .inl ⟨rfl, rfl⟩, ⟨by simp [R0, bv], .inl ⟨rfl, rfl⟩⟩⟩⟩
  obtain ⟨W, h1, h2, h3⟩ := ht
  exact ⟨W, h1, by omega, fun k hk => (Below.heap_alloc _ _ _ (by omega)).trans (h3 k hk)⟩

set_option maxHeartbeats 4000000 in
set_option maxRecDepth 100000 in
theorem toString_any (c : UInt8) (inp txt : List UInt8) (G : Nat → Prop) (hp : Says 83 #[.bool true] 0 false (c :: inp) [] txt G) (hc : c.toNat < 48 ∨ 57 < c.toNat)
    (hdot : ∀ x ∈ 95 :: 82 :: c :: inp, x ≠ 46) (hlen : inp.length ≤ 100000000) (ht : txt ≠ []) (htl : txt.length ≤ 1000000000) (B : Nat) (w : World) (hT : Tabs B w) (hB : B ≤ w.heap.size) :
    Calls Tryz.prog 40 #[.string (bs (95 :: 82 :: c :: inp)), .slice none 0 0] w fun e w' => e = .returned (.tuple #[.string (bs txt), .nilIface]) ∧ Below w.heap.size w w' := by
  have hmf : ∀ (fn : Fn) (first cap : Array Value) (w : World), (Instr.makeFunc fn first cap).run Tryz.prog w = .ok (.func fn first cap) w := fun _ _ _ _ => rfl
  have HX := Lib.hid (fun w => index_none (95 :: 82 :: c :: inp) 46 hdot (by simp; omega) w)
  have HP : Hid (∀ w, Calls Tryz.prog 60 #[.string (bs (95 :: 82 :: c :: inp)), .string (bs [95, 82])] w fun e w' => e = .returned (.bool true) ∧ w' = w) := by
    intro w
    refine (Tryz.strings_HasPrefix (bs (95 :: 82 :: c :: inp)) (bs [95, 82]) w).mono ?_
    rintro e w' ⟨rfl, rfl⟩
    exact ⟨by simp [Lib.hasPrefix], rfl⟩
  have b1 : Below w.heap.size w ((w.alloc (.cells #[.string ⟨#[]⟩] 9)).alloc (.cells #[.nilIface] 49)) := ((Below.refl _ _).alloc (Nat.le_refl _) _).alloc (by simp) _
  have F := Rst.fresh (hT.same fun k hk => (b1.mono hB).block k hk) (by simp; omega : B ≤ ((w.alloc (.cells #[.string ⟨#[]⟩] 9)).alloc (.cells #[.nilIface] 49)).heap.size) (c :: inp) (by simp; omega)
  have b2 := Lib.hid (b1.alloc (by simp; omega) (.cells ((R0 (c :: inp)).cs (.pointer none) (.slice none 0 0)) tR))
  have e1 : ((w.alloc (.cells #[.string ⟨#[]⟩] 9)).alloc (.cells #[.nilIface] 49)).heap.size = w.heap.size + 1 + 1 := by simp
  rw [e1] at F
  have A := Lib.hid (At.start F)
  have HS := Lib.hid (symbol_any 0 false c inp txt G hp hc)
  have TL := Lib.hid htl
  have TN := Lib.hid ht
  have hex : (bs (95 :: 82 :: c :: inp)).extract 2 (inp.length + 1 + 1 + 1) = bs (c :: inp) := by rw [bs_extract]; congr 1; simp
  clear hp hc hdot hT hB b1 e1 F htl ht
  go_enter_defers Tryz.func40, Tryz.ntmps40
  go_wp2_with (first
    | (go_at_call 60; refine (HP.out _).mono ?_; rintro e w' ⟨rfl, rfl⟩)
    | (go_at_call 62; refine (HX.out _).mono ?_; rintro e w' ⟨rfl, rfl⟩)
    | (go_at_call 65; fail))
  go_loop [10, 38] (fun _ i => i = .int .i64 0) (fun _ _ => 0)
  case atStart => rfl
  case round =>
    subst hrel
    go_wp2_with (go_at_call 65; refine (At.says HS.out A.out rfl rfl (fun _ => by simpa [R0] using TL.out)).mono ?_)
    rintro e w1 ⟨rfl, A1⟩
    intro A1
    have c1 := A1.c1
    have A1' := A1
    obtain ⟨o, l, _, _, H, K⟩ := A1'
    have BS := Lib.hid (bString _ _ _ _ H (by simpa [R0, RS.to] using TN.out))
    obtain ⟨ad, buf, V⟩ := H
    have c9 := V.c9
    have c5 := V.c5
    have b3 := Lib.hid (b2.out.trans ((K.below (by simp)).mono (by omega)))
    have HV := Lib.hid V.heap
    have hb0 : w1.heap[w.heap.size]? = some (.cells #[.string ⟨#[]⟩] 9 (0, 0)) := by
      rw [K.block _ (by simp <;> omega) (.inl (by omega)), Below.heap_alloc _ _ _ (by simp <;> omega), Below.heap_alloc _ _ _ (by simp)]
      exact heap_alloc_new w _
    have hb1 : w1.heap[w.heap.size + 1]? = some (.cells #[.nilIface] 49 (0, 0)) := by
      rw [K.block _ (by simp) (.inl (by omega)), Below.heap_alloc _ _ _ (by simp)]
      have := heap_alloc_new (w.alloc (.cells #[.string ⟨#[]⟩] 9)) (.cells #[.nilIface] 49)
      simpa using this
    have HB0 := Lib.hid hb0
    have HB1 := Lib.hid hb1
    clear hb0 hb1
    clear A1 V K A b2
    go_wp2_with (go_at_call 48; refine BS.out.mono ?_)
    rintro e w2 ⟨rfl, b4, hb⟩
    have c9' : w2.cell? ⟨w.heap.size + 1 + 1, 9, none⟩ = some (.int .i64 0) := by rw [cellAt (hb.trans HV.out)]; rfl
    have d0 : w2.heap[w.heap.size]? = some (.cells #[.string ⟨#[]⟩] 9 (0, 0)) := (b4.block _ (by omega)).trans HB0.out
    have d1 : w2.heap[w.heap.size + 1]? = some (.cells #[.nilIface] 49 (0, 0)) := (b4.block _ (by omega)).trans HB1.out
    have k0 : w2.cell? ⟨w.heap.size, 0, none⟩ = some (.string ⟨#[]⟩) := by rw [cellAt d0]; rfl
    have k1 : w2.cell? ⟨w.heap.size + 1, 0, none⟩ = some .nilIface := by rw [cellAt d1]; rfl
    have f0 : w2.frozen? ⟨w.heap.size, 0, none⟩ = false := Lib.frozen_of_heap d0 0
    have f1 : w2.frozen? ⟨w.heap.size + 1, 0, none⟩ = false := Lib.frozen_of_heap d1 0
    have b5 := Lib.hid (b3.out.trans (b4.mono (by omega)))
    have D0 := Lib.hid d0
    have D1 := Lib.hid d1
    clear d0 d1 b4 hb b3 HV HB0 HB1 BS
    go_wp2
    refine leaves_cons (f := 61) (args := #[.pointer (some ⟨w.heap.size, 0, none⟩), .pointer (some ⟨w.heap.size + 1, 0, none⟩)]) (by simp) (by simp [go_sem]) ?_
    refine (top_idle ⟨w.heap.size, 0, none⟩ ⟨w.heap.size + 1, 0, none⟩ _).mono ?_
    rintro e u' w'' ⟨rfl, rfl, rfl⟩
    have hx : ((R0 (c :: inp)).to [] o txt l).out = txt := rfl
    rw [hx]
    have E0 : (w2.setCell ⟨w.heap.size, 0, none⟩ (.string (bs txt))).cell? ⟨w.heap.size, 0, none⟩ = some (.string (bs txt)) := by rw [cellAt (setCell_heap D0.out 0 _)]; rfl
    have D1' : (w2.setCell ⟨w.heap.size, 0, none⟩ (.string (bs txt))).heap[w.heap.size + 1]? = some (.cells #[.nilIface] 49 (0, 0)) := by
      rw [Below.heap_setCell _ _ _ _ (by simp)]; exact D1.out
    have E1 : ((w2.setCell ⟨w.heap.size, 0, none⟩ (.string (bs txt))).setCell ⟨w.heap.size + 1, 0, none⟩ .nilIface).cell? ⟨w.heap.size + 1, 0, none⟩ = some .nilIface := by rw [cellAt (setCell_heap D1' 0 _)]; rfl
    simp [Leaves, settle, results, Tryz.results40, go_sem, E0, E1]
    exact (b5.out.setCell (p := ⟨w.heap.size, 0, none⟩) (Nat.le_refl _) _).setCell (p := ⟨w.heap.size + 1, 0, none⟩) (Nat.le_succ _) _
end Go.Proofs.YtlpbhfmhndhbkaaGreatDoor
