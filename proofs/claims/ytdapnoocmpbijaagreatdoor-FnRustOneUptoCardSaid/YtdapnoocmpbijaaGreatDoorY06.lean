/- In silence. -/
import Derived.Test.YtdapnoocmpbijaaGreatDoorY05
import Derived.Test.YtdapnoocmpbijaaGreatDoorY03
import Derived.Deep.QuietTactic
import Derived.Lib.BufferRead
namespace Go.Proofs.YtdapnoocmpbijaaGreatDoor
open Go.RowKit
section
variable {B b : Nat} {r0 : RS} {w0 w : World} {k txt : List UInt8} {G : Nat → Prop}
/-- In silence any text is as good as another. -/
theorem At.quiet {t' : List UInt8} {G' : Nat → Prop} (h : At B b r0 w0 k txt G w) (hs : r0.skip = true) : At B b r0 w0 k t' G' w := by
  obtain ⟨o, l, h1, h2, h3, h4⟩ := h
  exact ⟨o, l, h1, (fun e => by rw [hs] at e; cases e), h3.cast (by simp [RS.to, hs]), h4⟩
end
/-- In silence nothing is told. -/
theorem Says.quiet {f : FuncId} {xs : Array Value} {lb : Nat} {inp k t t' : List UInt8} {G G' : Nat → Prop} (h : Says f xs lb true inp k t G) : Says f xs lb true inp k t' G' := by
  intro B b r w hr hsk hlb hi _
  refine (h B b r w hr hsk hlb hi (fun e => by rw [hsk] at e; cases e)).mono ?_
  rintro e w' ⟨rfl, o, l, h1, h2, h3, h4⟩
  exact ⟨rfl, o, l, h1, (fun e => by rw [hsk] at e; cases e), h3.cast (by simp [RS.to, hsk]), h4⟩
end Go.Proofs.YtdapnoocmpbijaaGreatDoor

/- zzIndex of a byte, zzReplaceAll of a byte by a byte. -/
namespace Go.Proofs.YtdapnoocmpbijaaGreatDoor
open Go.RowKit

theorem At.below {B b : Nat} {r0 : RS} {w0 w w' : World} {k txt : List UInt8} {G : Nat → Prop} (h : At B b r0 w0 k txt G w) (hb : Below w.heap.size w w') : At B b r0 w0 k txt G w' := by
  obtain ⟨o, l, h1, h2, ⟨ad, buf, h3⟩, h4⟩ := h
  refine ⟨o, l, h1, h2, ⟨ad, buf, ?_⟩, h4.trans ⟨hb.os, hb.tape, hb.output, hb.size, fun k hk _ => hb.block k hk⟩⟩
  refine ⟨h3.hB, by have := h3.hw; have := hb.size; omega, h3.len, h3.tab.same (fun k hk => hb.block k (by have := h3.hw; omega)), (hb.block b h3.rst.lt).trans h3.heap, h3.addr, ?_⟩
  obtain ⟨h5, h6⟩ := h3.own
  refine ⟨h5, ?_⟩
  rcases h6 with h6 | ⟨g, cap, cur, hv, hg, hh, hr⟩
  · exact .inl h6
  · exact .inr ⟨g, cap, cur, hv, hg, (hb.block g (Array.getElem?_eq_some_iff.1 hh).1).trans hh, hr⟩

set_option maxHeartbeats 2000000 in
set_option maxRecDepth 100000 in
theorem index_some (p q : List UInt8) (c : UInt8) (hc : ∀ x ∈ p, x ≠ c) (hl : (p ++ c :: q).length ≤ 1000000000000) (w : World) :
    Calls Tryz.prog 47 #[.string (bs (p ++ c :: q)), .string (bs [c])] w fun e w' => e = .returned (.int .i64 p.length) ∧ w' = w := by
  obtain ⟨l, hl0⟩ : ∃ l, l = p ++ c :: q := ⟨_, rfl⟩
  rw [← hl0] at hl ⊢
  have hpl : p.length < l.length := by rw [hl0]; simp
  have hat : l[p.length]'hpl = c := by simp [hl0]
  have hlo : ∀ k (h : k < p.length), l[k]'(by omega) ≠ c := fun k h => by
    have : l[k]'(by omega) = p[k] := by simp [hl0, List.getElem_append_left h]
    rw [this]; exact hc _ (List.getElem_mem h)
  have HC := Lib.hid hlo
  have HA := Lib.hid hat
  clear hc hlo hat hl0
  go_enter Tryz.func47, Tryz.ntmps47
  go_wp2_with fail
  go_loop [5] (fun i => ∃ k : Nat, k ≤ p.length ∧ i = .int .i64 k) (fun i => p.length + 1 - (intOf i).toNat)
  case atStart => exact ⟨0, Nat.zero_le _, rfl⟩
  case round =>
    obtain ⟨k, hk, rfl⟩ := hrel
    have hlt : k < l.length := by omega
    have hcut : (l.drop k).take (k + 1 - k) = [l[k]] := by rw [Nat.add_sub_cancel_left, List.drop_eq_getElem_cons hlt]; rfl
    by_cases hkp : k < p.length
    · have hs : (((bs l).extract k (k + 1)).toList == (bs [c]).toList) = false := by
        rw [Lib.bytes_beq_false_iff, bs_extract, hcut]
        intro e
        have := bs_inj e
        simp at this
        exact HC.out k hkp this
      clear hcut
      go_wp2_with fail
      go_round
      case rel => exact ⟨k + 1, by omega, by go_num⟩
      case measure => simp [intOf]; omega
    · obtain rfl : k = p.length := by omega
      have hs : (((bs l).extract p.length (p.length + 1)).toList == (bs [c]).toList) = true := by
        rw [bs_extract, hcut, HA.out]; exact BEq.rfl
      clear hcut
      go_wp2_with fail
      go_ret
      exact ⟨rfl, rfl⟩

theorem row_kind2 {w : World} {B size : Nat} {e : TypeId} {v : Value} {n : Nat} {xs : List Value} (h : w.ownsRow B e size v n xs) : ∀ k, v.ownBlock = some k → B ≤ k := fun k hk => (h.lt k hk).1
theorem conv_row2 {w : World} {B : Nat} {v : Value} {l : List UInt8} (h : w.ownsRow B tB 1 v l.length (bv l)) :
    (convert 41 9 v).run Tryz.prog w = .ok (.string (bs l)) w := by
  have hc := fun g (hg : v.ownBlock = some g) => h.cells (g := g) hg
  rcases h.2 with ⟨rfl, h0⟩ | ⟨g, cap, cur, rfl, _⟩
  · have : l = [] := List.eq_nil_of_length_eq_zero h0
    subst this
    exact Lib.run_convert_nil_bytes w _ _ 5 0 Tryz.underlying41 Tryz.underlying5 Tryz.underlying9
  · refine run_convert_bytes_back _ _ _ 5 _ cap l Tryz.underlying41 Tryz.underlying5 Tryz.underlying9 ?_
    intro j hj
    exact hc g rfl j _ (by simp [bv, hj])
/-- A dash for an underscore. -/
def rep (c : UInt8) : UInt8 := if c = 95 then 45 else c
theorem split_at (c : UInt8) (l : List UInt8) : (∀ x ∈ l, x ≠ c) ∨ ∃ p q, l = p ++ c :: q ∧ ∀ x ∈ p, x ≠ c := by
  induction l with
  | nil => exact .inl fun x hx => by cases hx
  | cons a l ih =>
    by_cases ha : a = c
    · exact .inr ⟨[], l, by rw [ha]; rfl, fun x hx => by cases hx⟩
    · rcases ih with ih | ⟨p, q, h1, h2⟩
      · exact .inl fun x hx => by rcases List.mem_cons.1 hx with rfl | hx; exact ha; exact ih x hx
      · exact .inr ⟨a :: p, q, by rw [h1]; rfl, fun x hx => by rcases List.mem_cons.1 hx with rfl | hx; exact ha; exact h2 x hx⟩
theorem map_id_of {l : List UInt8} {f : UInt8 → UInt8} (h : ∀ x ∈ l, f x = x) : l.map f = l := by
  induction l with
  | nil => rfl
  | cons a l ih => rw [List.map_cons, h a (by simp), ih fun x hx => h x (by simp [hx])]

set_option maxHeartbeats 4000000 in
set_option maxRecDepth 100000 in
theorem replace_any (l : List UInt8) (f : UInt8 → UInt8) (hf : ∀ x, f x = if x = 95 then 45 else x) (hl : l.length ≤ 100000) (w : World) :
    Calls Tryz.prog 121 #[.string (bs l), .string (bs [95]), .string (bs [45])] w fun e w' => e = .returned (.string (bs (l.map f))) ∧ Below w.heap.size w w' := by
  obtain ⟨i0, hi, hz0, hz1, hz2⟩ := info_parts infoB
  have HF := Lib.hid hf
  clear hf
  go_enter Tryz.func121, Tryz.ntmps121
  go_wp2_with fail
  go_loopw [0, 7] (fun s v wr => ∃ acc rest : List UInt8, s = .string (bs rest) ∧ acc ++ rest.map f = l.map f ∧ wr.ownsRow w.heap.size tB 1 v acc.length (bv acc) ∧ Below w.heap.size w wr) (fun s _ _ => match s with | .string b => b.size | _ => 0)
  case atStart => exact ⟨[], l, rfl, rfl, World.ownsRow_nil _ _ _ _, Below.refl _ _⟩
  case round =>
    obtain ⟨acc, rest, rfl, hacc, own, hb⟩ := hrel
    have hlen : acc.length + rest.length ≤ l.length := by have := congrArg List.length hacc; simp at this; omega
    have HA := Lib.hid hacc
    clear hacc
    have hB := hb.size
    rcases split_at 95 rest with h | ⟨p, q, rfl, h⟩
    · have e1 : rest.map f = rest := map_id_of fun x hx => by rw [HF.out, if_neg (h x hx)]
      have HA2 : Hid (acc ++ rest = l.map f) := Lib.hid (by rw [← HA.out, e1])
      have HX := Lib.hid (fun w => index_none rest 95 h (by omega) w)
      clear h e1 HA
      have q1 : acc.length + (bs rest).size ≤ maxLen := by simp; unfold maxLen; omega
      have q2 : acc.length + (bs rest).size ≤ 140737488355328 := by simp; omega
      go_wp2_with (first
        | (go_at_call 47; refine (HX.out _).mono ?_; rintro e w1 ⟨rfl, rfl⟩)
        | (at_builtin; refine Lib.wpList_append_own_string _ rfl _ _ 41 9 rfl w.heap.size tB i0 Tryz.underlying41 Tryz.underlying9 hi hz0 hz1 hz2 _ _ _ rfl own (bs rest) rfl q1 q2 hB ?_))
      intro v' w2 own' hg _
      have hb2 := Lib.hid (hb.grown hg hB (row_kind2 own))
      have own2 : w2.ownsRow w.heap.size tB 1 v' (acc ++ rest).length (bv (acc ++ rest)) := by
        have e1 : (acc ++ rest).length = acc.length + (bs rest).size := by simp
        rw [strCells_bv, bs_list] at own'
        rw [e1]; simpa [bv] using own'
      have cv := conv_row2 own2
      obtain ⟨ao, n', cap, rfl⟩ : ∃ ao n' cap, v' = .slice ao n' cap := by
        rcases own'.2 with ⟨hv, _⟩ | ⟨g, cap, cur, hv, _⟩
        · exact ⟨_, _, _, hv⟩
        · exact ⟨_, _, _, hv⟩
      clear own own' own2 hg
      go_wp2
      go_ret
      exact ⟨by rw [HA2.out]; rfl, hb2.out⟩
    · have HX := Lib.hid (fun w => index_some p q 95 h (by simp at hlen ⊢; omega) w)
      have e1 : p.map f = p := map_id_of fun x hx => by rw [HF.out, if_neg (h x hx)]
      have HA2 : Hid ((acc ++ p ++ [45]) ++ q.map f = l.map f) := Lib.hid (by rw [← HA.out]; simp [e1, HF.out])
      clear h e1 HA
      simp only [List.length_append, List.length_cons] at hlen
      have q1 : acc.length + (bs p).size ≤ maxLen := by simp; unfold maxLen; omega
      have q2 : acc.length + (bs p).size ≤ 140737488355328 := by simp; omega
      have q3 : (acc ++ p).length + (bs [45]).size ≤ maxLen := by simp; unfold maxLen; omega
      have q4 : (acc ++ p).length + (bs [45]).size ≤ 140737488355328 := by simp; omega
      have e2 : (bs (p ++ 95 :: q)).extract 0 p.length = bs p := by rw [bs_take]; simp
      have e3 : (bs (p ++ 95 :: q)).extract (p.length + 1) (p.length + (q.length + 1)) = bs q := by
        rw [bs_extract]
        have : (p ++ 95 :: q).drop (p.length + 1) = q := by rw [List.drop_append]; simp
        rw [this, List.take_of_length_le (by omega)]
      go_wp2_with (first
        | (go_at_call 47; refine (HX.out _).mono ?_; rintro e w1 ⟨rfl, rfl⟩)
        | (at_builtin; refine Lib.wpList_append_own_string _ rfl _ _ 41 9 rfl w.heap.size tB i0 Tryz.underlying41 Tryz.underlying9 hi hz0 hz1 hz2 _ _ _ rfl own (bs p) rfl q1 q2 hB ?_))
      intro v' w2 own' hg _
      have hb2 := hb.grown hg hB (row_kind2 own)
      have hB2 := hb2.size
      have own2 : w2.ownsRow w.heap.size tB 1 v' (acc ++ p).length (bv (acc ++ p)) := by
        have e1 : (acc ++ p).length = acc.length + (bs p).size := by simp
        rw [strCells_bv, bs_list] at own'
        rw [e1]; simpa [bv] using own'
      have HB2 := Lib.hid hb2
      clear own own' hg hb hb2
      go_wp2_with (at_builtin; refine Lib.wpList_append_own_string _ rfl _ _ 41 9 rfl w.heap.size tB i0 Tryz.underlying41 Tryz.underlying9 hi hz0 hz1 hz2 _ _ _ rfl own2 (bs [45]) rfl q3 q4 hB2 ?_)
      intro v2 w3 own' hg _
      have hb3 := Lib.hid (HB2.out.grown hg hB2 (row_kind2 own2))
      have own3 : w3.ownsRow w.heap.size tB 1 v2 (acc ++ p ++ [45]).length (bv (acc ++ p ++ [45])) := by
        have e1 : (acc ++ p ++ [45]).length = (acc ++ p).length + (bs [45]).size := by simp; omega
        rw [strCells_bv, bs_list] at own'
        rw [e1]; simpa [bv] using own'
      clear own2 own' hg
      go_wp2
      go_roundw
      case measure => simp; omega
      case rel => exact ⟨acc ++ p ++ [45], q, rfl, HA2.out, own3, hb3.out⟩
end Go.Proofs.YtdapnoocmpbijaaGreatDoor

