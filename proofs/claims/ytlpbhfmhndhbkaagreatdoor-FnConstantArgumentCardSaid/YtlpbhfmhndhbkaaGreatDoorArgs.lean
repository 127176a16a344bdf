/- genericArgs: one argument behind the other. -/
import Derived.Test.YtlpbhfmhndhbkaaGreatDoorPathA
namespace Go.Proofs.YtlpbhfmhndhbkaaGreatDoor
open Go.RowKit

/-- Parts one behind the other, up to an E. -/
inductive Run (f : FuncId) (lb : Nat) (sk : Bool) : List UInt8 → List UInt8 → List (List UInt8) → Prop
  | nil (k : List UInt8) : Run f lb sk (69 :: k) (69 :: k) []
  | cons (c : UInt8) (l k1 k t : List UInt8) (ts : List (List UInt8)) (hc : c.toNat ≠ 69) (h : Says f #[] lb sk (c :: l) k1 t T0) (r : Run f lb sk k1 k ts) : Run f lb sk (c :: l) k (t :: ts)

set_option maxHeartbeats 4000000 in
set_option maxRecDepth 100000 in
theorem genericArgs_any (lb : Nat) (sk : Bool) (inp k txt : List UInt8) (ts : List (List UInt8)) (h : Run 120 lb sk inp (69 :: k) ts) (htxt : txt = joined [44, 32] ts) :
    Says 98 #[] lb sk inp (69 :: k) txt T0 := by
  intro B b r w hr hsk hlb hi ho
  have c8 : w.cell? ⟨b, 8, none⟩ = some (.bool false) := by obtain ⟨ad, buf, h'⟩ := hr; exact h'.c8
  have hlt := hr.lt
  have A := At.start (hr.alloc (.cells #[.pointer (some ⟨b, 0, none⟩)] 68))
  have B0 := Box.new w 68 (.pointer (some ⟨b, 0, none⟩))
  rw [hi] at A
  have HI := Lib.hid hi
  have HSK := Lib.hid hsk
  have HLB := Lib.hid hlb
  have HO := Lib.hid ho
  have HT := Lib.hid htxt
  have HR := Lib.hid h
  clear hi hsk hlb htxt ho h
  go_enter Tryz.func98, Tryz.ntmps98
  go_wp2_with fail
  go_loopg [3] (ts.length + 1) (fun n f wr => ∃ (first : Bool) (inp' txt' : List UInt8) (ts' : List (List UInt8)), n = ts'.length + 1 ∧ f = .bool first ∧ Run 120 lb sk inp' (69 :: k) ts' ∧
    txt = txt' ++ (if first then joined [44, 32] ts' else tailText [44, 32] ts') ∧ At B b r (w.alloc (.cells #[.pointer (some ⟨b, 0, none⟩)] 68)) inp' txt' T0 wr)
  case atStart => exact ⟨true, inp, [], ts, rfl, rfl, HR.out, HT.out, A.mono fun _ _ => trivial⟩
  case round =>
    obtain ⟨first, inp', txt', ts', rfl, rfl, hrun, htx, A⟩ := hrel
    clear c8 hlt
    cases hrun with
    | nil =>
      have cB0 := A.box B0 (by decide)
      have Ac1 := A.c1
      have Aln := A.len.2
      simp only [List.length_cons] at Aln
      have HTX := Lib.hid htx
      clear htx
      go_wp2_with fail
      go_end0
      exact (A.to rfl (by rw [HTX.out]; cases first <;> simp [joined, tailText])).post HI.out ((Kept.refl B w).alloc _)
    | cons c l k1 _ t ts2 hc hs hrun =>
      have cB0 := A.box B0 (by decide)
      have Ac1 := A.c1
      have Aln := A.len.2
      simp only [List.length_cons] at Aln
      have hc' : ((c.toNat : Int) != 69) = true := by simp; omega
      have HTX := Lib.hid htx
      have HRUN := Lib.hid hrun
      clear htx hc hrun
      cases first with
      | true =>
        go_wp2_with fail
        refine (A.says hs HSK.out HLB.out ?_).mono ?_
        · intro hs0; have a := HO.out hs0; rw [HTX.out] at a; simp [joined] at a ⊢; omega
        rintro e w1 ⟨rfl, A'⟩
        go_wp2_with fail
        go_roundg (ts2.length + 1)
        case measure => simp
        case rel => exact ⟨false, k1, txt' ++ t, ts2, rfl, rfl, HRUN.out, by rw [HTX.out]; simp [joined], A'⟩
      | false =>
        go_wp2_with fail
        refine (A.ws [44, 32] (by simp) ?_).mono ?_
        · intro hs0; have a := HO.out hs0; rw [HTX.out] at a; simp [tailText] at a ⊢; omega
        rintro e w1 ⟨rfl, A'⟩
        clear cB0 Ac1
        have cB0 := A'.box B0 (by decide)
        go_wp2_with fail
        refine (A'.says hs HSK.out HLB.out ?_).mono ?_
        · intro hs0; have a := HO.out hs0; rw [HTX.out] at a; simp [tailText] at a ⊢; omega
        rintro e w2 ⟨rfl, A''⟩
        go_wp2_with fail
        go_roundg (ts2.length + 1)
        case measure => simp
        case rel => exact ⟨false, k1, txt' ++ [44, 32] ++ t, ts2, rfl, rfl, HRUN.out, by rw [HTX.out]; simp [tailText], A''⟩
end Go.Proofs.YtlpbhfmhndhbkaaGreatDoor
