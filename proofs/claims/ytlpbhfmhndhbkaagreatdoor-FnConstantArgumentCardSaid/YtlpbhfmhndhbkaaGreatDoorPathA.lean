/- path at a crate, at generic arguments. -/
import Derived.Test.YtlpbhfmhndhbkaaGreatDoorSays
namespace Go.Proofs.YtlpbhfmhndhbkaaGreatDoor
open Go.RowKit

set_option maxHeartbeats 4000000 in
set_option maxRecDepth 100000 in
theorem path_C (sep : Bool) (lb : Nat) (sk : Bool) (inp k name txt : List UInt8) (n : Nat) (h : Names inp k n name) (hne : name ≠ []) (hl : (name.getLast hne).toNat ≠ 32)
    (htxt : txt = name) : Says 83 #[.bool sep] lb sk (67 :: inp) k txt NS := by
  intro B b r w hr hsk hlb hi ho
  have c1 : w.cell? ⟨b, 1, none⟩ = some (.string (bs r.str)) := by obtain ⟨ad, buf, h'⟩ := hr; exact h'.c1
  rw [hi] at c1
  have hlt := hr.lt
  have hln := hr.len
  rw [hi] at hln
  simp only [List.length_cons] at hln
  have ho' := ho
  rw [htxt] at ho'
  have HO := Lib.hid ho'
  clear ho ho'
  have HI := Lib.hid hi
  have HSK := Lib.hid hsk
  have HLB := Lib.hid hlb
  have HT := Lib.hid htxt
  clear hi hsk hlb htxt
  have A := At.start ((hr.alloc (.cells #[.pointer (some ⟨b, 0, none⟩)] 68)).alloc (.cells #[.bool sep] 4))
  obtain ⟨B0, B1⟩ := boxes2 w 68 4 (.pointer (some ⟨b, 0, none⟩)) (.bool sep)
  rw [HI.out] at A
  go_enter Tryz.func83, Tryz.ntmps83
  go_wp2_with fail
  refine (A.adv 67).mono ?_
  rintro e w1 ⟨rfl, A'⟩
  clear c1 hlt
  clear A; have A := A'; clear A'
  have cB0 := A.box B0 (by decide)
  go_wp2_with fail
  refine (h B b r _ _ _ _ A).mono ?_
  rintro e w2 ⟨rfl, A'⟩
  clear cB0
  clear A; have A := A'; clear A'
  have cB0 := A.box B0 (by decide)
  go_wp2_with fail
  refine (A.ws name hne (fun hs0 => by have ho' := HO.out hs0; simp at ho' ⊢; omega)).mono ?_
  rintro e w3 ⟨rfl, A'⟩
  clear cB0
  clear A; have A := A'; clear A'
  have cB0 := A.box B0 (by decide)
  clear cB0
  go_wp2_with fail
  go_end0
  exact (A.mono fun l e => by rw [e]; exact hl).to rfl (by rw [HT.out]; simp) |>.post HI.out (((Kept.refl B w).alloc _).alloc _)

set_option maxHeartbeats 4000000 in
set_option maxRecDepth 100000 in
theorem path_I_true (lb : Nat) (sk : Bool) (inp k1 k t1 t2 txt : List UInt8) (G1 G2 : Nat → Prop) (h1 : Says 83 #[.bool true] lb sk inp k1 t1 G1) (h2 : Says 98 #[] lb sk k1 (69 :: k) t2 G2)
    (htxt : txt = t1 ++ ([58, 58] ++ ([60] ++ (t2 ++ [62])))) : Says 83 #[.bool true] lb sk (73 :: inp) k txt NS := by
  intro B b r w hr hsk hlb hi ho
  have c1 : w.cell? ⟨b, 1, none⟩ = some (.string (bs r.str)) := by obtain ⟨ad, buf, h'⟩ := hr; exact h'.c1
  rw [hi] at c1
  have hlt := hr.lt
  have hln := hr.len
  rw [hi] at hln
  simp only [List.length_cons] at hln
  have ho' := ho
  rw [htxt] at ho'
  have HO := Lib.hid ho'
  clear ho ho'
  have HI := Lib.hid hi
  have HSK := Lib.hid hsk
  have HLB := Lib.hid hlb
  have HT := Lib.hid htxt
  clear hi hsk hlb htxt
  have A := At.start ((hr.alloc (.cells #[.pointer (some ⟨b, 0, none⟩)] 68)).alloc (.cells #[.bool true] 4))
  obtain ⟨B0, B1⟩ := boxes2 w 68 4 (.pointer (some ⟨b, 0, none⟩)) (.bool true)
  rw [HI.out] at A
  go_enter Tryz.func83, Tryz.ntmps83
  go_wp2_with fail
  refine (A.adv 73).mono ?_
  rintro e w1 ⟨rfl, A'⟩
  clear c1 hlt
  clear A; have A := A'; clear A'
  have cB0 := A.box B0 (by decide)
  have cB1 := A.box B1 (by decide)
  go_wp2_with fail
  refine (A.says h1 HSK.out HLB.out (fun hs0 => by have ho' := HO.out hs0; simp at ho' ⊢; omega)).mono ?_
  rintro e w2 ⟨rfl, A'⟩
  clear cB0 cB1
  clear A; have A := A'; clear A'
  have cB0 := A.box B0 (by decide)
  have cB1 := A.box B1 (by decide)
  go_wp2_with fail
  refine (A.ws [58, 58] (by simp) (fun hs0 => by have ho' := HO.out hs0; simp at ho' ⊢; omega)).mono ?_
  rintro e w3 ⟨rfl, A'⟩
  clear cB0 cB1
  clear A; have A := A'; clear A'
  have cB0 := A.box B0 (by decide)
  go_wp2_with fail
  refine (A.wb 60 60 rfl (fun hs0 => by have ho' := HO.out hs0; simp at ho' ⊢; omega)).mono ?_
  rintro e w4 ⟨rfl, A'⟩
  clear cB0
  clear A; have A := A'; clear A'
  have cB0 := A.box B0 (by decide)
  go_wp2_with fail
  refine (A.says h2 HSK.out HLB.out (fun hs0 => by have ho' := HO.out hs0; simp at ho' ⊢; omega)).mono ?_
  rintro e w5 ⟨rfl, A'⟩
  clear cB0
  clear A; have A := A'; clear A'
  have cB0 := A.box B0 (by decide)
  go_wp2_with fail
  refine (A.wb 62 62 rfl (fun hs0 => by have ho' := HO.out hs0; simp at ho' ⊢; omega)).mono ?_
  rintro e w6 ⟨rfl, A'⟩
  clear cB0
  clear A; have A := A'; clear A'
  have cB0 := A.box B0 (by decide)
  go_wp2_with fail
  refine (A.chk 69 69 rfl).mono ?_
  rintro e w7 ⟨rfl, A'⟩
  clear cB0
  clear A; have A := A'; clear A'
  have cB0 := A.box B0 (by decide)
  clear cB0
  go_wp2_with fail
  go_end0
  exact (A.mono fun l e => by rw [e]; decide).to rfl (by rw [HT.out]; simp) |>.post HI.out (((Kept.refl B w).alloc _).alloc _)

set_option maxHeartbeats 4000000 in
set_option maxRecDepth 100000 in
theorem path_I_false (lb : Nat) (sk : Bool) (inp k1 k t1 t2 txt : List UInt8) (G1 G2 : Nat → Prop) (h1 : Says 83 #[.bool false] lb sk inp k1 t1 G1) (h2 : Says 98 #[] lb sk k1 (69 :: k) t2 G2)
    (htxt : txt = t1 ++ (([60] ++ (t2 ++ [62])))) : Says 83 #[.bool false] lb sk (73 :: inp) k txt NS := by
  intro B b r w hr hsk hlb hi ho
  have c1 : w.cell? ⟨b, 1, none⟩ = some (.string (bs r.str)) := by obtain ⟨ad, buf, h'⟩ := hr; exact h'.c1
  rw [hi] at c1
  have hlt := hr.lt
  have hln := hr.len
  rw [hi] at hln
  simp only [List.length_cons] at hln
  have ho' := ho
  rw [htxt] at ho'
  have HO := Lib.hid ho'
  clear ho ho'
  have HI := Lib.hid hi
  have HSK := Lib.hid hsk
  have HLB := Lib.hid hlb
  have HT := Lib.hid htxt
  clear hi hsk hlb htxt
  have A := At.start ((hr.alloc (.cells #[.pointer (some ⟨b, 0, none⟩)] 68)).alloc (.cells #[.bool false] 4))
  obtain ⟨B0, B1⟩ := boxes2 w 68 4 (.pointer (some ⟨b, 0, none⟩)) (.bool false)
  rw [HI.out] at A
  go_enter Tryz.func83, Tryz.ntmps83
  go_wp2_with fail
  refine (A.adv 73).mono ?_
  rintro e w1 ⟨rfl, A'⟩
  clear c1 hlt
  clear A; have A := A'; clear A'
  have cB0 := A.box B0 (by decide)
  have cB1 := A.box B1 (by decide)
  go_wp2_with fail
  refine (A.says h1 HSK.out HLB.out (fun hs0 => by have ho' := HO.out hs0; simp at ho' ⊢; omega)).mono ?_
  rintro e w2 ⟨rfl, A'⟩
  clear cB0 cB1
  clear A; have A := A'; clear A'
  have cB0 := A.box B0 (by decide)
  have cB1 := A.box B1 (by decide)
  go_wp2_with fail
  refine (A.wb 60 60 rfl (fun hs0 => by have ho' := HO.out hs0; simp at ho' ⊢; omega)).mono ?_
  rintro e w3 ⟨rfl, A'⟩
  clear cB0 cB1
  clear A; have A := A'; clear A'
  have cB0 := A.box B0 (by decide)
  go_wp2_with fail
  refine (A.says h2 HSK.out HLB.out (fun hs0 => by have ho' := HO.out hs0; simp at ho' ⊢; omega)).mono ?_
  rintro e w4 ⟨rfl, A'⟩
  clear cB0
  clear A; have A := A'; clear A'
  have cB0 := A.box B0 (by decide)
  go_wp2_with fail
  refine (A.wb 62 62 rfl (fun hs0 => by have ho' := HO.out hs0; simp at ho' ⊢; omega)).mono ?_
  rintro e w5 ⟨rfl, A'⟩
  clear cB0
  clear A; have A := A'; clear A'
  have cB0 := A.box B0 (by decide)
  go_wp2_with fail
  refine (A.chk 69 69 rfl).mono ?_
  rintro e w6 ⟨rfl, A'⟩
  clear cB0
  clear A; have A := A'; clear A'
  have cB0 := A.box B0 (by decide)
  clear cB0
  go_wp2_with fail
  go_end0
  exact (A.mono fun l e => by rw [e]; decide).to rfl (by rw [HT.out]; simp) |>.post HI.out (((Kept.refl B w).alloc _).alloc _)
end Go.Proofs.YtlpbhfmhndhbkaaGreatDoor
