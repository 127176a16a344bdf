/- The law on a tuple of one type. -/
import Derived.Test.YtdapnoocmpbijaaGreatDoorY32
import Derived.Test.YtdapnoocmpbijaaGreatDoorY10
namespace Go.Proofs.YtdapnoocmpbijaaGreatDoor
open Go.RowKit

theorem FitT.run {t : RT} (hf : FitT t) (k : List UInt8) : Run 85 0 false (pieceOf t ++ 69 :: k) (69 :: k) [tell t] := by
  obtain ⟨c, l, e, hd⟩ := hf.head
  have h1 := hf.type (69 :: k)
  rw [e, List.cons_append] at h1 ⊢
  exact Run.cons c _ _ _ _ _ hd.ne69 h1.any (Run.nil k)
theorem read_one {t : RT} (hf : FitT t) : ReadAs (nameOf (84 :: (pieceOf t ++ [69]))) (toldOf (40 :: (tell t ++ [44, 41]))) := by
  have hln := hf.tlen
  have hl := hf.len
  refine read_type 84 (pieceOf t ++ [69]) _ ?_ (by decide) (by decide) (by decide) ?_ (by simp; omega) (by simp; omega)
  · rw [List.append_assoc]
    exact type_T 0 false (pieceOf t ++ 69 :: [69]) [69] _ [tell t] (hf.run [69]) (by simp) (by simp [joined, tailText])
  · intro x hx
    simp only [List.mem_cons, List.mem_append, List.not_mem_nil, or_false] at hx
    rcases hx with rfl | hx | rfl
    · decide
    · exact hf.no46 x hx
    · decide

set_option maxHeartbeats 4000000 in
set_option maxRecDepth 100000 in
theorem law_one {M : Nat} (t : RT) (hM : M ≤ 2147483647) (cs : Array Value) (B : Nat) (w : World) (ht : Tabs B w) (hB : B ≤ w.heap.size) (hT : TreeAt M B w cs t) :
    Calls Tryz.prog 9 #[.agg cs] w fun e w' => e = .returned (.bool true) ∧ Below w.heap.size w w' := by
  obtain ⟨kd, c, nm, n, fl, a, m, cap, rfl, _, _⟩ := hT.inv
  have S0 := Lib.hid (StT.start ht hB hT)
  have HZ := Lib.hid (fun w' (h : StT M B t w w.heap.size (rv kd c nm n fl (.slice a m cap)) w') => (fits2_any kd c nm n fl a m cap w').mono (R' := fun e w'' => ∃ bl : Bool, e = .returned (.bool bl) ∧ StT M B t w w.heap.size (rv kd c nm n fl (.slice a m cap)) w'') fun _ _ ⟨bl, e, b⟩ => ⟨bl, e, h.step b⟩)
  have HF := Lib.hid (fun w' (h : StT M B t w w.heap.size (rv kd c nm n fl (.slice a m cap)) w') => (fitsType_any t kd c nm n fl (.slice a m cap) hM B w' h.tabs h.hB h.tree).mono (R' := fun e w'' => ∃ bl : Bool, e = .returned (.bool bl) ∧ (bl = true → FitT t) ∧ StT M B t w w.heap.size (rv kd c nm n fl (.slice a m cap)) w'') fun _ _ ⟨bl, e, f, b⟩ => ⟨bl, e, f, h.step b⟩)
  have HP := Lib.hid (fun (hf : FitT t) w' (h : StT M B t w w.heap.size (rv kd c nm n fl (.slice a m cap)) w') => (piece_text t (by omega : 0 ≤ 20) hf.rt hf.kd hf.sz kd c nm n fl (.slice a m cap) B w' h.tabs h.hB h.tree).mono (R' := fun e w'' => e = .returned (.string (bs (pieceOf t))) ∧ StT M B t w w.heap.size (rv kd c nm n fl (.slice a m cap)) w'') fun _ _ ⟨e, b⟩ => ⟨e, h.step b⟩)
  have HA := Lib.hid (fun (hf : FitT t) w' (h : StT M B t w w.heap.size (rv kd c nm n fl (.slice a m cap)) w') => (argument_any (pieceOf t) (tell t) (by have := hf.len; omega) (by have := hf.tlen; omega) hf.read B w' h.tabs h.hB).mono (R' := fun e w'' => e = .returned (.tuple #[.string (bs (tell t)), .bool true]) ∧ StT M B t w w.heap.size (rv kd c nm n fl (.slice a m cap)) w'') fun _ _ ⟨e, b⟩ => ⟨e, h.step b⟩)
  have HI := Lib.hid (fun (hf : FitT t) w' (h : StT M B t w w.heap.size (rv kd c nm n fl (.slice a m cap)) w') => (argumentIs_any (84 :: (pieceOf t ++ [69])) (40 :: (tell t ++ [44, 41])) (by have := hf.len; simp; omega) (by have := hf.tlen; simp; omega) (read_one hf) B w' h.tabs h.hB).mono (R' := fun e w'' => e = .returned (.bool true) ∧ StT M B t w w.heap.size (rv kd c nm n fl (.slice a m cap)) w'') fun _ _ ⟨e, b⟩ => ⟨e, h.step b⟩)
  have HL := Lib.hid (fun (hf : FitT t) => (⟨hf.len, hf.tlen⟩ : (pieceOf t).length ≤ 330000 ∧ (tell t).length ≤ 360000))
  have e1 : (⟨#[84]⟩ : ByteArray) ++ bs (pieceOf t) = bs (84 :: pieceOf t) := bs_cons _ _
  have e2 : bs (84 :: pieceOf t) ++ (⟨#[69]⟩ : ByteArray) = bs (84 :: (pieceOf t ++ [69])) := by rw [show (⟨#[69]⟩ : ByteArray) = bs [69] from rfl, bs_append]; rfl
  have e3 : (⟨#[40]⟩ : ByteArray) ++ bs (tell t) = bs (40 :: tell t) := bs_cons _ _
  have e4 : bs (40 :: tell t) ++ (⟨#[44, 41]⟩ : ByteArray) = bs (40 :: (tell t ++ [44, 41])) := by rw [show (⟨#[44, 41]⟩ : ByteArray) = bs [44, 41] from rfl, bs_append]; rfl
  clear ht hB hT hM
  go_enter Tryz.func9, Tryz.ntmps9
  go_wp2_with fail
  refine (HZ.out _ S0.out).mono ?_
  rintro e w1 ⟨bl, rfl, h1⟩
  obtain ⟨a0, a1, a2, a3, a4, a5⟩ := h1.cells
  have S1 := Lib.hid h1
  clear h1
  cases bl with
  | false =>
    go_wp2
    go_ret
    exact ⟨rfl, S1.out.below⟩
  | true =>
    go_wp2_with fail
    refine (HF.out _ S1.out).mono ?_
    rintro e w2 ⟨bl, rfl, hf, h2⟩
    obtain ⟨a0, a1, a2, a3, a4, a5⟩ := h2.cells
    have S2 := Lib.hid h2
    clear h2
    cases bl with
    | false =>
      clear hf
      go_wp2
      go_ret
      exact ⟨rfl, S2.out.below⟩
    | true =>
      have FT := Lib.hid (hf rfl)
      obtain ⟨g1, g2⟩ := HL.out FT.out
      clear hf
      go_wp2_with fail
      refine (HP.out FT.out _ S2.out).mono ?_
      rintro e w3 ⟨rfl, h3⟩
      have S3 := Lib.hid h3
      clear h3
      go_wp2_with fail
      refine (HA.out FT.out _ S3.out).mono ?_
      rintro e w4 ⟨rfl, h4⟩
      obtain ⟨a0, a1, a2, a3, a4, a5⟩ := h4.cells
      have S4 := Lib.hid h4
      clear h4
      go_wp2_with fail
      refine (HP.out FT.out _ S4.out).mono ?_
      rintro e w5 ⟨rfl, h5⟩
      have S5 := Lib.hid h5
      clear h5
      go_wp2_with fail
      refine (HI.out FT.out _ S5.out).mono ?_
      rintro e w6 ⟨rfl, h6⟩
      have S6 := Lib.hid h6
      clear h6
      go_wp2
      go_ret
      exact ⟨rfl, S6.out.below⟩
end Go.Proofs.YtdapnoocmpbijaaGreatDoor

