/- demangleType: named types, arrays, slices, references, pointers. -/
import Derived.Test.YtidokamjbglkbaaGreatDoorY14
import Derived.Test.YtidokamjbglkbaaGreatDoorY11
namespace Go.Proofs.YtidokamjbglkbaaGreatDoor
open Go.RowKit

set_option maxHeartbeats 4000000 in
set_option maxRecDepth 100000 in
theorem type_A (lb : Nat) (sk : Bool) (inp k1 k t1 t2 txt : List UInt8) (G1 G2 : Nat → Prop) (h1 : Says 86 #[] lb sk inp k1 t1 G1) (h2 : Says 104 #[] lb sk k1 k t2 G2) (htxt : txt = 91 :: (t1 ++ ([59, 32] ++ (t2 ++ [93])))) :
    Says 86 #[] lb sk (65 :: inp) k txt NS := by
  intro B b r w hr hsk hlb hi ho
  have c1 : w.cell? ⟨b, 1, none⟩ = some (.string (bs r.str)) := by obtain ⟨ad, buf, h'⟩ := hr; exact h'.c1
  rw [hi] at c1
  have hlt := hr.lt
  have hln := hr.len
  rw [hi] at hln
  simp only [List.length_cons] at hln
  have ho' := ho
  rw [htxt] at ho'
  have HO := Lib.hid ho'
  clear ho ho'
  have HI := Lib.hid hi
  have HSK := Lib.hid hsk
  have HLB := Lib.hid hlb
  have HT := Lib.hid htxt
  clear hi hsk hlb htxt
  have A := At.start hr
  rw [HI.out] at A
  go_enter Tryz.func86, Tryz.ntmps86
  go_wp2_with fail
  refine (A.adv 65).mono ?_
  rintro e w1 ⟨rfl, A'⟩
  clear c1 hlt
  clear A; have A := A'; clear A'
  go_wp2_with fail
  refine (A.wb 91 91 rfl (fun hs0 => by have ho' := HO.out hs0; simp at ho' ⊢; omega)).mono ?_
  rintro e w2 ⟨rfl, A'⟩
  clear A; have A := A'; clear A'
  go_wp2_with fail
  refine (A.says h1 HSK.out HLB.out (fun hs0 => by have ho' := HO.out hs0; simp at ho' ⊢; omega)).mono ?_
  rintro e w3 ⟨rfl, A'⟩
  clear A; have A := A'; clear A'
  go_wp2_with fail
  refine (A.ws [59, 32] (by simp) (fun hs0 => by have ho' := HO.out hs0; simp at ho' ⊢; omega)).mono ?_
  rintro e w4 ⟨rfl, A'⟩
  clear A; have A := A'; clear A'
  go_wp2_with fail
  refine (A.says h2 HSK.out HLB.out (fun hs0 => by have ho' := HO.out hs0; simp at ho' ⊢; omega)).mono ?_
  rintro e w5 ⟨rfl, A'⟩
  clear A; have A := A'; clear A'
  go_wp2_with fail
  refine (A.wb 93 93 rfl (fun hs0 => by have ho' := HO.out hs0; simp at ho' ⊢; omega)).mono ?_
  rintro e w6 ⟨rfl, A'⟩
  clear A; have A := A'; clear A'
  go_wp2_with fail
  go_end0
  exact (A.mono (fun l e => by rw [e]; decide)).to rfl (by rw [HT.out]; simp) |>.post HI.out (Kept.refl B w)

set_option maxHeartbeats 4000000 in
set_option maxRecDepth 100000 in
theorem type_S (lb : Nat) (sk : Bool) (inp k t txt : List UInt8) (G : Nat → Prop) (h1 : Says 86 #[] lb sk inp k t G) (htxt : txt = 91 :: (t ++ [93])) :
    Says 86 #[] lb sk (83 :: inp) k txt NS := by
  intro B b r w hr hsk hlb hi ho
  have c1 : w.cell? ⟨b, 1, none⟩ = some (.string (bs r.str)) := by obtain ⟨ad, buf, h'⟩ := hr; exact h'.c1
  rw [hi] at c1
  have hlt := hr.lt
  have hln := hr.len
  rw [hi] at hln
  simp only [List.length_cons] at hln
  have ho' := ho
  rw [htxt] at ho'
  have HO := Lib.hid ho'
  clear ho ho'
  have HI := Lib.hid hi
  have HSK := Lib.hid hsk
  have HLB := Lib.hid hlb
  have HT := Lib.hid htxt
  clear hi hsk hlb htxt
  have A := At.start hr
  rw [HI.out] at A
  go_enter Tryz.func86, Tryz.ntmps86
  go_wp2_with fail
  refine (A.adv 83).mono ?_
  rintro e w1 ⟨rfl, A'⟩
  clear c1 hlt
  clear A; have A := A'; clear A'
  go_wp2_with fail
  refine (A.wb 91 91 rfl (fun hs0 => by have ho' := HO.out hs0; simp at ho' ⊢; omega)).mono ?_
  rintro e w2 ⟨rfl, A'⟩
  clear A; have A := A'; clear A'
  go_wp2_with fail
  refine (A.says h1 HSK.out HLB.out (fun hs0 => by have ho' := HO.out hs0; simp at ho' ⊢; omega)).mono ?_
  rintro e w3 ⟨rfl, A'⟩
  clear A; have A := A'; clear A'
  go_wp2_with fail
  refine (A.wb 93 93 rfl (fun hs0 => by have ho' := HO.out hs0; simp at ho' ⊢; omega)).mono ?_
  rintro e w4 ⟨rfl, A'⟩
  clear A; have A := A'; clear A'
  go_wp2_with fail
  go_end0
  exact (A.mono (fun l e => by rw [e]; decide)).to rfl (by rw [HT.out]; simp) |>.post HI.out (Kept.refl B w)

set_option maxHeartbeats 4000000 in
set_option maxRecDepth 100000 in
theorem type_P (lb : Nat) (sk : Bool) (inp k t txt : List UInt8) (h1 : Says 86 #[] lb sk inp k t NS) (htxt : txt = [42, 99, 111, 110, 115, 116, 32] ++ t) :
    Says 86 #[] lb sk (80 :: inp) k txt NS := by
  intro B b r w hr hsk hlb hi ho
  have c1 : w.cell? ⟨b, 1, none⟩ = some (.string (bs r.str)) := by obtain ⟨ad, buf, h'⟩ := hr; exact h'.c1
  rw [hi] at c1
  have hlt := hr.lt
  have hln := hr.len
  rw [hi] at hln
  simp only [List.length_cons] at hln
  have ho' := ho
  rw [htxt] at ho'
  have HO := Lib.hid ho'
  clear ho ho'
  have HI := Lib.hid hi
  have HSK := Lib.hid hsk
  have HLB := Lib.hid hlb
  have HT := Lib.hid htxt
  clear hi hsk hlb htxt
  have A := At.start hr
  rw [HI.out] at A
  go_enter Tryz.func86, Tryz.ntmps86
  go_wp2_with fail
  refine (A.adv 80).mono ?_
  rintro e w1 ⟨rfl, A'⟩
  clear c1 hlt
  clear A; have A := A'; clear A'
  go_wp2_with fail
  refine (A.ws [42, 99, 111, 110, 115, 116, 32] (by simp) (fun hs0 => by have ho' := HO.out hs0; simp at ho' ⊢; omega)).mono ?_
  rintro e w2 ⟨rfl, A'⟩
  clear A; have A := A'; clear A'
  go_wp2_with fail
  refine (A.says h1 HSK.out HLB.out (fun hs0 => by have ho' := HO.out hs0; simp at ho' ⊢; omega)).mono ?_
  rintro e w3 ⟨rfl, A'⟩
  clear A; have A := A'; clear A'
  go_wp2_with fail
  go_end0
  exact (A.mono (fun _ h => h)).to rfl (by rw [HT.out]; simp) |>.post HI.out (Kept.refl B w)

set_option maxHeartbeats 4000000 in
set_option maxRecDepth 100000 in
theorem type_O (lb : Nat) (sk : Bool) (inp k t txt : List UInt8) (h1 : Says 86 #[] lb sk inp k t NS) (htxt : txt = [42, 109, 117, 116, 32] ++ t) :
    Says 86 #[] lb sk (79 :: inp) k txt NS := by
  intro B b r w hr hsk hlb hi ho
  have c1 : w.cell? ⟨b, 1, none⟩ = some (.string (bs r.str)) := by obtain ⟨ad, buf, h'⟩ := hr; exact h'.c1
  rw [hi] at c1
  have hlt := hr.lt
  have hln := hr.len
  rw [hi] at hln
  simp only [List.length_cons] at hln
  have ho' := ho
  rw [htxt] at ho'
  have HO := Lib.hid ho'
  clear ho ho'
  have HI := Lib.hid hi
  have HSK := Lib.hid hsk
  have HLB := Lib.hid hlb
  have HT := Lib.hid htxt
  clear hi hsk hlb htxt
  have A := At.start hr
  rw [HI.out] at A
  go_enter Tryz.func86, Tryz.ntmps86
  go_wp2_with fail
  refine (A.adv 79).mono ?_
  rintro e w1 ⟨rfl, A'⟩
  clear c1 hlt
  clear A; have A := A'; clear A'
  go_wp2_with fail
  refine (A.ws [42, 109, 117, 116, 32] (by simp) (fun hs0 => by have ho' := HO.out hs0; simp at ho' ⊢; omega)).mono ?_
  rintro e w2 ⟨rfl, A'⟩
  clear A; have A := A'; clear A'
  go_wp2_with fail
  refine (A.says h1 HSK.out HLB.out (fun hs0 => by have ho' := HO.out hs0; simp at ho' ⊢; omega)).mono ?_
  rintro e w3 ⟨rfl, A'⟩
  clear A; have A := A'; clear A'
  go_wp2_with fail
  go_end0
  exact (A.mono (fun _ h => h)).to rfl (by rw [HT.out]; simp) |>.post HI.out (Kept.refl B w)

set_option maxHeartbeats 4000000 in
set_option maxRecDepth 100000 in
theorem type_R (lb : Nat) (sk : Bool) (c : UInt8) (hc : ((c.toNat : Int) == 76) = false) (inp k t txt : List UInt8) (h1 : Says 86 #[] lb sk (c :: inp) k t NS) (htxt : txt = 38 :: t) :
    Says 86 #[] lb sk (82 :: c :: inp) k txt NS := by
  intro B b r w hr hsk hlb hi ho
  have c1 : w.cell? ⟨b, 1, none⟩ = some (.string (bs r.str)) := by obtain ⟨ad, buf, h'⟩ := hr; exact h'.c1
  rw [hi] at c1
  have hlt := hr.lt
  have hln := hr.len
  rw [hi] at hln
  simp only [List.length_cons] at hln
  have ho' := ho
  rw [htxt] at ho'
  have HO := Lib.hid ho'
  clear ho ho'
  have HI := Lib.hid hi
  have HSK := Lib.hid hsk
  have HLB := Lib.hid hlb
  have HT := Lib.hid htxt
  clear hi hsk hlb htxt
  have A := At.start hr
  rw [HI.out] at A
  go_enter Tryz.func86, Tryz.ntmps86
  go_wp2_with fail
  refine (A.adv 82).mono ?_
  rintro e w1 ⟨rfl, A'⟩
  clear c1 hlt
  clear A; have A := A'; clear A'
  go_wp2_with fail
  refine (A.wb 38 38 rfl (fun hs0 => by have ho' := HO.out hs0; simp at ho' ⊢; omega)).mono ?_
  rintro e w2 ⟨rfl, A'⟩
  clear A; have A := A'; clear A'
  have Ac1 := A.c1
  have Aln := A.len.2
  try simp only [List.length_cons] at Aln
  try simp only [List.cons_append, List.nil_append] at Ac1
  go_wp2_with fail
  refine (A.says h1 HSK.out HLB.out (fun hs0 => by have ho' := HO.out hs0; simp at ho' ⊢; omega)).mono ?_
  rintro e w3 ⟨rfl, A'⟩
  clear Ac1 Aln
  clear A; have A := A'; clear A'
  go_wp2_with fail
  go_end0
  exact (A.mono (fun _ h => h)).to rfl (by rw [HT.out]; simp) |>.post HI.out (Kept.refl B w)

set_option maxHeartbeats 4000000 in
set_option maxRecDepth 100000 in
theorem type_Q (lb : Nat) (sk : Bool) (c : UInt8) (hc : ((c.toNat : Int) == 76) = false) (inp k t txt : List UInt8) (h1 : Says 86 #[] lb sk (c :: inp) k t NS) (htxt : txt = 38 :: ([109, 117, 116, 32] ++ t)) :
    Says 86 #[] lb sk (81 :: c :: inp) k txt NS := by
  intro B b r w hr hsk hlb hi ho
  have c1 : w.cell? ⟨b, 1, none⟩ = some (.string (bs r.str)) := by obtain ⟨ad, buf, h'⟩ := hr; exact h'.c1
  rw [hi] at c1
  have hlt := hr.lt
  have hln := hr.len
  rw [hi] at hln
  simp only [List.length_cons] at hln
  have ho' := ho
  rw [htxt] at ho'
  have HO := Lib.hid ho'
  clear ho ho'
  have HI := Lib.hid hi
  have HSK := Lib.hid hsk
  have HLB := Lib.hid hlb
  have HT := Lib.hid htxt
  clear hi hsk hlb htxt
  have A := At.start hr
  rw [HI.out] at A
  go_enter Tryz.func86, Tryz.ntmps86
  go_wp2_with fail
  refine (A.adv 81).mono ?_
  rintro e w1 ⟨rfl, A'⟩
  clear c1 hlt
  clear A; have A := A'; clear A'
  go_wp2_with fail
  refine (A.wb 38 38 rfl (fun hs0 => by have ho' := HO.out hs0; simp at ho' ⊢; omega)).mono ?_
  rintro e w2 ⟨rfl, A'⟩
  clear A; have A := A'; clear A'
  have Ac1 := A.c1
  have Aln := A.len.2
  try simp only [List.length_cons] at Aln
  try simp only [List.cons_append, List.nil_append] at Ac1
  go_wp2_with fail
  refine (A.ws [109, 117, 116, 32] (by simp) (fun hs0 => by have ho' := HO.out hs0; simp at ho' ⊢; omega)).mono ?_
  rintro e w3 ⟨rfl, A'⟩
  clear Ac1 Aln
  clear A; have A := A'; clear A'
  go_wp2_with fail
  refine (A.says h1 HSK.out HLB.out (fun hs0 => by have ho' := HO.out hs0; simp at ho' ⊢; omega)).mono ?_
  rintro e w4 ⟨rfl, A'⟩
  clear A; have A := A'; clear A'
  go_wp2_with fail
  go_end0
  exact (A.mono (fun _ h => h)).to rfl (by rw [HT.out]; simp) |>.post HI.out (Kept.refl B w)

set_option maxHeartbeats 4000000 in
set_option maxRecDepth 100000 in
theorem type_RL (lb : Nat) (sk : Bool) (n : Nat) (hn0 : n ≠ 0) (hn : n ≤ lb) (hb : lb ≤ 1000000000) (hs : sk = false → lb ≤ 25) (inp k t txt : List UInt8) (h1 : Says 86 #[] lb sk inp k t NS) (htxt : txt = 38 :: (lifeText lb n ++ ([32] ++ (t)))) :
    Says 86 #[] lb sk (82 :: 76 :: (b62 n ++ inp)) k txt NS := by
  intro B b r w hr hsk hlb hi ho
  have c1 : w.cell? ⟨b, 1, none⟩ = some (.string (bs r.str)) := by obtain ⟨ad, buf, h'⟩ := hr; exact h'.c1
  rw [hi] at c1
  have hlt := hr.lt
  have hln := hr.len
  rw [hi] at hln
  simp only [List.length_cons] at hln
  have ho' := ho
  rw [htxt] at ho'
  have HO := Lib.hid ho'
  clear ho ho'
  have HI := Lib.hid hi
  have HSK := Lib.hid hsk
  have HLB := Lib.hid hlb
  have HT := Lib.hid htxt
  clear hi hsk hlb htxt
  have hn1 : ((n : Int) > 0) := by omega
  have hn1' : (0 < (n : Int)) := by omega
  have HN := Lib.hid hn
  have HB := Lib.hid hb
  have HS := Lib.hid hs
  have HN0 := Lib.hid hn0
  clear hn hb hs hn0
  have A := At.start hr
  rw [HI.out] at A
  go_enter Tryz.func86, Tryz.ntmps86
  go_wp2_with fail
  refine (A.adv 82).mono ?_
  rintro e w1 ⟨rfl, A'⟩
  clear c1 hlt
  clear A; have A := A'; clear A'
  go_wp2_with fail
  refine (A.wb 38 38 rfl (fun hs0 => by have ho' := HO.out hs0; simp [lifeText_len] at ho' ⊢; omega)).mono ?_
  rintro e w2 ⟨rfl, A'⟩
  clear A; have A := A'; clear A'
  have Ac1 := A.c1
  have Aln := A.len.2
  try simp only [List.length_cons, List.length_append] at Aln
  try simp only [List.cons_append, List.nil_append] at Ac1
  go_wp2_with fail
  refine (A.adv 76).mono ?_
  rintro e w3 ⟨rfl, A'⟩
  clear Ac1 Aln
  clear A; have A := A'; clear A'
  go_wp2_with fail
  refine (A.base62 n _ (by have := HN.out; have := HB.out; omega)).mono ?_
  rintro e w4 ⟨rfl, A'⟩
  clear A; have A := A'; clear A'
  go_wp2_with fail
  refine (A.life n (by rw [HLB.out]; exact HN.out) (by rw [HLB.out]; exact HB.out) (fun e => by rw [HLB.out]; exact HS.out (by rw [← HSK.out]; exact e)) (fun hs0 => by have ho' := HO.out hs0; simp [lifeText_len] at ho' ⊢; omega)).mono ?_
  rintro e w5 ⟨rfl, A'⟩
  clear A; have A := A'; clear A'
  go_wp2_with fail
  refine (A.wb 32 32 rfl (fun hs0 => by have ho' := HO.out hs0; simp [lifeText_len] at ho' ⊢; omega)).mono ?_
  rintro e w6 ⟨rfl, A'⟩
  clear A; have A := A'; clear A'
  go_wp2_with fail
  refine (A.says h1 HSK.out HLB.out (fun hs0 => by have ho' := HO.out hs0; simp [lifeText_len] at ho' ⊢; omega)).mono ?_
  rintro e w7 ⟨rfl, A'⟩
  clear A; have A := A'; clear A'
  go_wp2_with fail
  go_end0
  exact (A.mono (fun _ h => h)).to rfl (by rw [HT.out, HLB.out]; simp) |>.post HI.out (Kept.refl B w)

set_option maxHeartbeats 4000000 in
set_option maxRecDepth 100000 in
theorem type_QL (lb : Nat) (sk : Bool) (n : Nat) (hn0 : n ≠ 0) (hn : n ≤ lb) (hb : lb ≤ 1000000000) (hs : sk = false → lb ≤ 25) (inp k t txt : List UInt8) (h1 : Says 86 #[] lb sk inp k t NS) (htxt : txt = 38 :: (lifeText lb n ++ ([32] ++ ([109, 117, 116, 32] ++ t)))) :
    Says 86 #[] lb sk (81 :: 76 :: (b62 n ++ inp)) k txt NS := by
  intro B b r w hr hsk hlb hi ho
  have c1 : w.cell? ⟨b, 1, none⟩ = some (.string (bs r.str)) := by obtain ⟨ad, buf, h'⟩ := hr; exact h'.c1
  rw [hi] at c1
  have hlt := hr.lt
  have hln := hr.len
  rw [hi] at hln
  simp only [List.length_cons] at hln
  have ho' := ho
  rw [htxt] at ho'
  have HO := Lib.hid ho'
  clear ho ho'
  have HI := Lib.hid hi
  have HSK := Lib.hid hsk
  have HLB := Lib.hid hlb
  have HT := Lib.hid htxt
  clear hi hsk hlb htxt
  have hn1 : ((n : Int) > 0) := by omega
  have hn1' : (0 < (n : Int)) := by omega
  have HN := Lib.hid hn
  have HB := Lib.hid hb
  have HS := Lib.hid hs
  have HN0 := Lib.hid hn0
  clear hn hb hs hn0
  have A := At.start hr
  rw [HI.out] at A
  go_enter Tryz.func86, Tryz.ntmps86
  go_wp2_with fail
  refine (A.adv 81).mono ?_
  rintro e w1 ⟨rfl, A'⟩
  clear c1 hlt
  clear A; have A := A'; clear A'
  go_wp2_with fail
  refine (A.wb 38 38 rfl (fun hs0 => by have ho' := HO.out hs0; simp [lifeText_len] at ho' ⊢; omega)).mono ?_
  rintro e w2 ⟨rfl, A'⟩
  clear A; have A := A'; clear A'
  have Ac1 := A.c1
  have Aln := A.len.2
  try simp only [List.length_cons, List.length_append] at Aln
  try simp only [List.cons_append, List.nil_append] at Ac1
  go_wp2_with fail
  refine (A.adv 76).mono ?_
  rintro e w3 ⟨rfl, A'⟩
  clear Ac1 Aln
  clear A; have A := A'; clear A'
  go_wp2_with fail
  refine (A.base62 n _ (by have := HN.out; have := HB.out; omega)).mono ?_
  rintro e w4 ⟨rfl, A'⟩
  clear A; have A := A'; clear A'
  go_wp2_with fail
  refine (A.life n (by rw [HLB.out]; exact HN.out) (by rw [HLB.out]; exact HB.out) (fun e => by rw [HLB.out]; exact HS.out (by rw [← HSK.out]; exact e)) (fun hs0 => by have ho' := HO.out hs0; simp [lifeText_len] at ho' ⊢; omega)).mono ?_
  rintro e w5 ⟨rfl, A'⟩
  clear A; have A := A'; clear A'
  go_wp2_with fail
  refine (A.wb 32 32 rfl (fun hs0 => by have ho' := HO.out hs0; simp [lifeText_len] at ho' ⊢; omega)).mono ?_
  rintro e w6 ⟨rfl, A'⟩
  clear A; have A := A'; clear A'
  go_wp2_with fail
  refine (A.ws [109, 117, 116, 32] (by simp) (fun hs0 => by have ho' := HO.out hs0; simp [lifeText_len] at ho' ⊢; omega)).mono ?_
  rintro e w7 ⟨rfl, A'⟩
  clear A; have A := A'; clear A'
  go_wp2_with fail
  refine (A.says h1 HSK.out HLB.out (fun hs0 => by have ho' := HO.out hs0; simp [lifeText_len] at ho' ⊢; omega)).mono ?_
  rintro e w8 ⟨rfl, A'⟩
  clear A; have A := A'; clear A'
  go_wp2_with fail
  go_end0
  exact (A.mono (fun _ h => h)).to rfl (by rw [HT.out, HLB.out]; simp) |>.post HI.out (Kept.refl B w)

set_option maxHeartbeats 4000000 in
set_option maxRecDepth 100000 in
theorem type_RE (lb : Nat) (sk : Bool) (inp k t txt : List UInt8) (h1 : Says 86 #[] lb sk inp k t NS) (htxt : txt = 38 :: t) :
    Says 86 #[] lb sk (82 :: 76 :: 95 :: inp) k txt NS := by
  intro B b r w hr hsk hlb hi ho
  have c1 : w.cell? ⟨b, 1, none⟩ = some (.string (bs r.str)) := by obtain ⟨ad, buf, h'⟩ := hr; exact h'.c1
  rw [hi] at c1
  have hlt := hr.lt
  have hln := hr.len
  rw [hi] at hln
  simp only [List.length_cons] at hln
  have ho' := ho
  rw [htxt] at ho'
  have HO := Lib.hid ho'
  clear ho ho'
  have HI := Lib.hid hi
  have HSK := Lib.hid hsk
  have HLB := Lib.hid hlb
  have HT := Lib.hid htxt
  clear hi hsk hlb htxt
  have A := At.start hr
  rw [HI.out] at A
  go_enter Tryz.func86, Tryz.ntmps86
  go_wp2_with fail
  refine (A.adv 82).mono ?_
  rintro e w1 ⟨rfl, A'⟩
  clear c1 hlt
  clear A; have A := A'; clear A'
  go_wp2_with fail
  refine (A.wb 38 38 rfl (fun hs0 => by have ho' := HO.out hs0; simp at ho' ⊢; omega)).mono ?_
  rintro e w2 ⟨rfl, A'⟩
  clear A; have A := A'; clear A'
  have Ac1 := A.c1
  have Aln := A.len.2
  try simp only [List.length_cons] at Aln
  try simp only [List.cons_append, List.nil_append] at Ac1
  go_wp2_with fail
  refine (A.adv 76).mono ?_
  rintro e w3 ⟨rfl, A'⟩
  clear Ac1 Aln
  clear A; have A := A'; clear A'
  go_wp2_with fail
  refine (A.base62 0 inp (by omega)).mono ?_
  rintro e w4 ⟨rfl, A'⟩
  clear A; have A := A'; clear A'
  go_wp2_with fail
  refine (A.says h1 HSK.out HLB.out (fun hs0 => by have ho' := HO.out hs0; simp at ho' ⊢; omega)).mono ?_
  rintro e w5 ⟨rfl, A'⟩
  clear A; have A := A'; clear A'
  go_wp2_with fail
  go_end0
  exact (A.mono (fun _ h => h)).to rfl (by rw [HT.out]; simp) |>.post HI.out (Kept.refl B w)

set_option maxHeartbeats 4000000 in
set_option maxRecDepth 100000 in
theorem type_path (lb : Nat) (sk : Bool) (c : UInt8) (hc : c.toNat = 67 ∨ c.toNat = 77 ∨ c.toNat = 88 ∨ c.toNat = 89 ∨ c.toNat = 78 ∨ c.toNat = 73) (inp k t txt : List UInt8) (h1 : Says 74 #[.bool false] lb sk (c :: inp) k t NS) (htxt : txt = t) :
    Says 86 #[] lb sk (c :: inp) k txt NS := by
  have hc' : c = 67 ∨ c = 77 ∨ c = 88 ∨ c = 89 ∨ c = 78 ∨ c = 73 := by
    rcases hc with h | h | h | h | h | h
    · exact .inl (UInt8.toNat_inj.1 h)
    · exact .inr (.inl (UInt8.toNat_inj.1 h))
    · exact .inr (.inr (.inl (UInt8.toNat_inj.1 h)))
    · exact .inr (.inr (.inr (.inl (UInt8.toNat_inj.1 h))))
    · exact .inr (.inr (.inr (.inr (.inl (UInt8.toNat_inj.1 h)))))
    · exact .inr (.inr (.inr (.inr (.inr (UInt8.toNat_inj.1 h)))))
  clear hc
  rcases hc' with rfl | rfl | rfl | rfl | rfl | rfl
  all_goals
    intro B b r w hr hsk hlb hi ho
    have c1 : w.cell? ⟨b, 1, none⟩ = some (.string (bs r.str)) := by obtain ⟨ad, buf, h'⟩ := hr; exact h'.c1
    rw [hi] at c1
    have hlt := hr.lt
    have hln := hr.len
    rw [hi] at hln
    simp only [List.length_cons] at hln
    have ho' := ho
    rw [htxt] at ho'
    have HO := Lib.hid ho'
    clear ho ho'
    have HI := Lib.hid hi
    have HSK := Lib.hid hsk
    have HLB := Lib.hid hlb
    have HT := Lib.hid htxt
    clear hi hsk hlb htxt
    have A := At.start hr
    rw [HI.out] at A
    go_enter Tryz.func86, Tryz.ntmps86
    go_wp2_with fail
    refine (A.says h1 HSK.out HLB.out (fun hs0 => by have ho' := HO.out hs0; simp at ho' ⊢; omega)).mono ?_
    rintro e w1 ⟨rfl, A'⟩
    clear c1 hlt
    clear A; have A := A'; clear A'
    go_wp2_with fail
    go_end0
    exact (A.mono (fun _ h => h)).to rfl (by rw [HT.out]; simp) |>.post HI.out (Kept.refl B w)

end Go.Proofs.YtidokamjbglkbaaGreatDoor

/- demangleType at a tuple. -/
namespace Go.Proofs.YtidokamjbglkbaaGreatDoor
open Go.RowKit

theorem Says.weaken {f : FuncId} {xs : Array Value} {lb : Nat} {sk : Bool} {inp k t : List UInt8} {G G' : Nat → Prop} (h : Says f xs lb sk inp k t G) (hG : ∀ l, G l → G' l) : Says f xs lb sk inp k t G' := by
  intro B b r w hr hsk hlb hi ho
  refine (h B b r w hr hsk hlb hi ho).mono ?_
  rintro e w' ⟨rfl, o, l, h1, h2, h3, h4⟩
  exact ⟨rfl, o, l, h1, fun e => hG l (h2 e), h3, h4⟩

set_option maxHeartbeats 4000000 in
set_option maxRecDepth 100000 in
theorem type_T (lb : Nat) (sk : Bool) (inp k txt : List UInt8) (ts : List (List UInt8)) (h : Run 86 lb sk inp (69 :: k) ts) (hts : ts.length ≤ 1000000) (htxt : txt = 40 :: (joined [44, 32] ts ++ ((if ts.length = 1 then [44] else []) ++ [41]))) :
    Says 86 #[] lb sk (84 :: inp) k txt NS := by
  intro B b r w hr hsk hlb hi ho
  have c1 : w.cell? ⟨b, 1, none⟩ = some (.string (bs r.str)) := by obtain ⟨ad, buf, h'⟩ := hr; exact h'.c1
  rw [hi] at c1
  have hln := hr.len
  rw [hi] at hln
  simp only [List.length_cons] at hln
  have A := At.start hr
  rw [hi] at A
  have HI := Lib.hid hi
  have HSK := Lib.hid hsk
  have HLB := Lib.hid hlb
  have HO := Lib.hid ho
  have HT := Lib.hid htxt
  have HR := Lib.hid h
  clear hi hsk hlb htxt ho h
  go_enter Tryz.func86, Tryz.ntmps86
  go_wp2_with fail
  refine (A.adv 84).mono ?_
  rintro e w1 ⟨rfl, A'⟩
  clear c1; clear A; have A := A'; clear A'
  go_wp2_with fail
  refine (A.wb 40 40 rfl (fun hs0 => by have a := HO.out hs0; rw [HT.out] at a; simp at a ⊢; omega)).mono ?_
  rintro e w2 ⟨rfl, A'⟩
  clear A; have A := A'; clear A'
  go_wp2_with fail
  go_loopg [3] (ts.length + 1) (fun n c wr => ∃ (cnt : Nat) (inp' txt' : List UInt8) (ts' : List (List UInt8)), n = ts'.length + 1 ∧ c = .int .i64 cnt ∧ Run 86 lb sk inp' (69 :: k) ts' ∧ cnt + ts'.length = ts.length ∧
    40 :: joined [44, 32] ts = txt' ++ (if cnt = 0 then joined [44, 32] ts' else tailText [44, 32] ts') ∧ At B b r w inp' txt' (fun _ => True) wr)
  case atStart => exact ⟨0, inp, [] ++ [40], ts, rfl, rfl, HR.out, by simp, by simp, A.mono fun _ _ => trivial⟩
  case round =>
    obtain ⟨cnt, inp', txt', ts', rfl, rfl, hrun, hcnt, htx, A⟩ := hrel
    cases hrun with
    | nil =>
      have Ac1 := A.c1
      have Aln := A.len.2
      simp only [List.length_cons] at Aln
      have htx' : txt' = 40 :: joined [44, 32] ts := by rw [htx]; split <;> simp [joined, tailText]
      simp only [List.length_nil, Nat.add_zero] at hcnt
      have HTX := Lib.hid htx'
      clear htx htx'
      by_cases h1 : cnt = 1
      · have HC := Lib.hid (hcnt.symm.trans h1)
        subst h1
        clear hcnt
        go_wp2_with fail
        refine (A.wb 44 44 rfl (fun hs0 => by have a := HO.out hs0; rw [HT.out, if_pos HC.out] at a; rw [HTX.out]; simp at a ⊢; omega)).mono ?_
        rintro e w3 ⟨rfl, A3⟩
        clear A Ac1
        go_wp2_with fail
        refine (A3.wb 41 41 rfl (fun hs0 => by have a := HO.out hs0; rw [HT.out, if_pos HC.out] at a; rw [HTX.out]; simp at a ⊢; omega)).mono ?_
        rintro e w4 ⟨rfl, A4⟩
        go_wp2_with fail
        refine (A4.chk 69 69 rfl).mono ?_
        rintro e w5 ⟨rfl, A5⟩
        go_wp2_with fail
        go_end0
        exact (A5.mono fun l e => by rw [e]; decide).to rfl (by rw [HT.out, if_pos HC.out, HTX.out]; simp) |>.post HI.out (Kept.refl B w)
      · have h1' : ((cnt : Int) == 1) = false := by rw [beq_eq_false_iff_ne]; omega
        have HC := Lib.hid (show ts.length ≠ 1 by omega)
        clear hcnt h1
        go_wp2_with fail
        refine (A.wb 41 41 rfl (fun hs0 => by have a := HO.out hs0; rw [HT.out, if_neg HC.out] at a; rw [HTX.out]; simp at a ⊢; omega)).mono ?_
        rintro e w4 ⟨rfl, A4⟩
        go_wp2_with fail
        refine (A4.chk 69 69 rfl).mono ?_
        rintro e w5 ⟨rfl, A5⟩
        go_wp2_with fail
        go_end0
        exact (A5.mono fun l e => by rw [e]; decide).to rfl (by rw [HT.out, if_neg HC.out, HTX.out]; simp) |>.post HI.out (Kept.refl B w)
    | cons c l k1 _ t ts2 hc hs hrun =>
      have Ac1 := A.c1
      have Aln := A.len.2
      simp only [List.length_cons] at Aln
      have hc' : ((c.toNat : Int) != 69) = true := by simp; omega
      have HRUN := Lib.hid hrun
      simp only [List.length_cons] at hcnt
      have hcb : cnt ≤ 1000000 := by omega
      have HTX := Lib.hid htx
      have HCN := Lib.hid hcnt
      clear htx hc hrun hcnt
      by_cases h0 : cnt = 0
      · subst h0
        go_wp2_with fail
        refine (A.says hs HSK.out HLB.out ?_).mono ?_
        · intro hs0; have a := HO.out hs0; rw [HT.out] at a; have b := congrArg List.length HTX.out; simp [joined] at a b ⊢; omega
        rintro e w1 ⟨rfl, A'⟩
        go_wp2_with fail
        go_roundg (ts2.length + 1)
        case measure => simp
        case rel => exact ⟨1, k1, txt' ++ t, ts2, rfl, rfl, HRUN.out, by have := HCN.out; omega, by rw [HTX.out]; simp [joined], A'⟩
      · have h0' : (0 : Int) < cnt := by omega
        have HC0 := Lib.hid h0
        clear h0
        go_wp2_with fail
        refine (A.ws [44, 32] (by simp) ?_).mono ?_
        · intro hs0; have a := HO.out hs0; rw [HT.out] at a; have b := congrArg List.length HTX.out; rw [if_neg HC0.out] at b; simp [tailText] at a b ⊢; omega
        rintro e w1 ⟨rfl, A'⟩
        go_wp2_with fail
        refine (A'.says hs HSK.out HLB.out ?_).mono ?_
        · intro hs0; have a := HO.out hs0; rw [HT.out] at a; have b := congrArg List.length HTX.out; rw [if_neg HC0.out] at b; simp [tailText] at a b ⊢; omega
        rintro e w2 ⟨rfl, A''⟩
        go_wp2_with fail
        go_roundg (ts2.length + 1)
        case measure => simp
        case rel => exact ⟨cnt + 1, k1, txt' ++ [44, 32] ++ t, ts2, rfl, by simp, HRUN.out, by have := HCN.out; omega, by rw [HTX.out, if_neg HC0.out, if_neg (by omega)]; simp [tailText], A''⟩
end Go.Proofs.YtidokamjbglkbaaGreatDoor

