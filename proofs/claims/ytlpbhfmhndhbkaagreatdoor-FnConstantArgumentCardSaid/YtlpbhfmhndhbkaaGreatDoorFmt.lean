/- strconv.FormatUint at base 10. -/
import Derived.Test.YtlpbhfmhndhbkaaGreatDoorArgs
import Derived.Test.YtlpbhfmhndhbkaaGreatDoorShelf
namespace Go.Proofs.YtlpbhfmhndhbkaaGreatDoor
open Go.RowKit Go.Sort Go.Lib

theorem grow_heap (w : World) (os : Array Obj) (k n : Nat) (h : k < w.heap.size) : (grow (w.drewN n) os).heap[k]? = w.heap[k]? := by
  show (w.heap ++ os)[k]? = _
  rw [Array.getElem?_append_left h]

theorem kept_grow {B : Nat} (w : World) (n : Nat) (os : Array Obj) : Kept B w (grow (w.drewN n) os) :=
  ⟨rfl, rfl, rfl, by show _ ≤ (w.heap ++ os).size; simp, fun k hk _ => grow_heap w os k n hk⟩

theorem At.grow {B b : Nat} {r0 : RS} {w0 w : World} {k txt : List UInt8} {G : Nat → Prop} (h : At B b r0 w0 k txt G w) (n : Nat) (os : Array Obj) : At B b r0 w0 k txt G (Go.Sort.grow (w.drewN n) os) := by
  obtain ⟨o, l, h1, h2, ⟨ad, buf, h3⟩, h4⟩ := h
  refine ⟨o, l, h1, h2, ⟨ad, buf, ?_⟩, h4.trans (kept_grow w n os)⟩
  have hs : w.heap.size ≤ (Go.Sort.grow (w.drewN n) os).heap.size := (kept_grow (B := B) w n os).size
  refine ⟨h3.hB, by have := h3.hw; omega, h3.len, h3.tab.same (fun k hk => grow_heap w os k n (by have := h3.hw; omega)), (grow_heap w os b n h3.rst.lt).trans h3.heap, h3.addr, ?_⟩
  obtain ⟨h5, h6⟩ := h3.own
  refine ⟨h5, ?_⟩
  rcases h6 with h6 | ⟨g, cap, cur, hv, hg, hh, hr⟩
  · exact .inl h6
  · exact .inr ⟨g, cap, cur, hv, hg, (grow_heap w os g n (Array.getElem?_eq_some_iff.1 hh).1).trans hh, hr⟩

set_option maxHeartbeats 6400000 in
set_option maxRecDepth 100000 in
theorem formatUint_any (u : Nat) (hu64 : u < 18446744073709551616) (w : World) (htab : Lib.TabIs Tryz.prog w "internal/strconv.uint64pow10" .u64 Lib.pow10Tab) :
    Calls Tryz.prog 79 #[.int .u64 u, .int .i64 10] w fun e w' => e = .returned (.string (bs (decDigits u))) ∧ ∃ k os, w' = grow (w.drewN k) os := by
  by_cases hs : u < 100
  · go_enter Tryz.func79, Tryz.ntmps79
    go_wp2_with fail
    refine (Tryz.internal_strconv_small u hs _).mono ?_
    rintro e w' ⟨rfl, rfl⟩
    go_wp2_with fail
    go_ret
    exact ⟨rfl, 0, #[], by simp [World.drewN_zero]⟩
  · have hu1 : 1 ≤ u := by omega
    have hnd20 : Lib.nDigits u ≤ 20 := by have := Lib.numDigits_eq u hu1 hu64; split at this <;> omega
    have hal : Tryz.prog.arrayLen 112 = 24 := by kernel_rfl
    have hel : Tryz.prog.elem 112 = tB := by kernel_rfl
    have hsl2 : ∀ W, (Instr.sliceAt 112 (.pointer (some ⟨w.heap.size, 0, none⟩)) none (some (.int .i64 (Lib.nDigits u : Int))) none).run Tryz.prog W = .ok (.slice (some ⟨w.heap.size, 0, none⟩) (Lib.nDigits u) 24) W := fun W => by
      rw [run_sliceAt_array_h W 112 ⟨w.heap.size, 0, none⟩ (by simp [Program.arrayLen, Program.elem, Tryz.underlying112]) .i64 (Lib.nDigits u : Int) (by omega) (by rw [hal]; omega)]
      go_simp
    have hH0 : Holds (fun (b : UInt8) => Value.int .u8 (b.toNat : Int)) (w.alloc (.cells Lib.zeros24 112)) w.heap.size 0 (Array.replicate (Lib.nDigits u) (0 : UInt8)) := fun j hj => by
      have hj' : j < Lib.nDigits u := by simpa using hj
      refine ⟨?_, World.frozen?_alloc_new _ _ _ _⟩
      rw [World.cell?_alloc_new, Lib.zeros24_at _ (by omega), getElem!_pos _ j hj]
      simp
    have hfmt := Tryz.internal_strconv_formatBase10 w.heap.size 0 24 u (Array.replicate (Lib.nDigits u) 0) (w.alloc (.cells Lib.zeros24 112)) hH0 (by rw [Array.size_replicate]; exact Lib.lt_pow_nDigits u) hu64 (by rw [Array.size_replicate]; omega)
    rw [Array.size_replicate] at hfmt
    have HH0 := Lib.hid hH0
    clear hH0 hal hel
    go_enter Tryz.func79, Tryz.ntmps79
    go_wp2_with fail
    refine (Tryz.internal_strconv_numDigits u hu1 hu64 _ (Lib.tabIs_alloc htab _)).mono ?_
    rintro e w' ⟨rfl, rfl⟩
    go_wp2_with fail
    refine hfmt.mono ?_
    rintro e w' ⟨rfl, k, v', dk, rfl, hF⟩
    have hcv : (convert 41 9 (.slice (some ⟨w.heap.size, 0, none⟩) (Lib.nDigits u) 24)).run Tryz.prog ((putRow (fun (b : UInt8) => Value.int .u8 (b.toNat : Int)) (w.alloc (.cells Lib.zeros24 112)) w.heap.size 0 dk).drewN k) = .ok (.string ⟨(Lib.decDigits u).toArray⟩) ((putRow (fun (b : UInt8) => Value.int .u8 (b.toNat : Int)) (w.alloc (.cells Lib.zeros24 112)) w.heap.size 0 dk).drewN k) := by
      have h := run_convert_bytes_back (P := Tryz.prog) ((putRow (fun (b : UInt8) => Value.int .u8 (b.toNat : Int)) (w.alloc (.cells Lib.zeros24 112)) w.heap.size 0 dk).drewN k) 41 9 tB ⟨w.heap.size, 0, none⟩ 24 (Lib.decDigits u) Tryz.underlying41 Tryz.underlying5 Tryz.underlying9 (fun j hj => by
        rw [Lib.row_is_numeral hF j hj, Lib.add_plain, World.cell?_drewN]
        exact cell?_putRow (fun (b : UInt8) => Value.int .u8 (b.toNat : Int)) _ w.heap.size 0 _ dk HH0.out (by rw [hF.size, Array.size_replicate]) j (by rw [hF.size]; rw [Lib.decDigits_length] at hj; exact hj))
      rw [Lib.decDigits_length] at h
      exact h
    go_wp2
    go_ret
    have e1 : ∃ os, (putRow (fun (b : UInt8) => Value.int .u8 (b.toNat : Int)) (w.alloc (.cells Lib.zeros24 112)) w.heap.size 0 dk).drewN k = grow (w.drewN k) os := by
      rw [alloc_eq_grow]
      obtain ⟨os', _, e⟩ := putRow_grow_new (fun (b : UInt8) => Value.int .u8 (b.toNat : Int)) w #[.cells Lib.zeros24 112] w.heap.size 0 dk (Nat.le_refl _)
      exact ⟨os', by rw [e]; rfl⟩
    obtain ⟨os, eo⟩ := e1
    exact ⟨rfl, k, os, eo⟩

set_option maxHeartbeats 1000000 in
theorem FormatUint_any (u : Nat) (hu64 : u < 18446744073709551616) (w : World) (htab : Lib.TabIs Tryz.prog w "internal/strconv.uint64pow10" .u64 Lib.pow10Tab) :
    Calls Tryz.prog 55 #[.int .u64 u, .int .i64 10] w fun e w' => e = .returned (.string (bs (decDigits u))) ∧ ∃ k os, w' = grow (w.drewN k) os := by
  go_enter Tryz.func55, Tryz.ntmps55
  go_wp2_with fail
  refine (formatUint_any u hu64 _ htab).mono ?_
  rintro e w' ⟨rfl, k, os, hw⟩
  have HW := Lib.hid hw
  clear hw
  go_wp2_with fail
  go_ret
  exact ⟨rfl, k, os, HW.out⟩
end Go.Proofs.YtlpbhfmhndhbkaaGreatDoor
