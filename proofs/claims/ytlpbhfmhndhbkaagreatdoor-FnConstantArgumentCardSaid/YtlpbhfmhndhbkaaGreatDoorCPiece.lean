/- RustPiece of a constant. -/
import Derived.Test.YtlpbhfmhndhbkaaGreatDoorRPiece
namespace Go.Proofs.YtlpbhfmhndhbkaaGreatDoor
open Go.RowKit

theorem steady_true : Steady (fun _ _ => True) := ⟨fun _ _ _ _ _ => trivial, fun _ _ _ _ _ => trivial⟩

theorem put_len (r : WR) (l : List UInt8) : (r.put l).out.length ≤ r.out.length + l.length + 1 ∧ (r.put l).cnt = r.cnt := by
  unfold WR.put
  split
  · exact ⟨by omega, rfl⟩
  · refine ⟨?_, rfl⟩
    simp only [List.length_append, sepOf]
    split <;> simp <;> omega

/-- What writing a number does. -/
def eNum (c : UInt8) (n : Nat) (fl : Bool) (r : WR) : WR := ((r.put [c]).put (negCode fl)).put (h16 n ++ [95])

theorem piece_num (c : UInt8) (nm : List UInt8) (n : Nat) (fl : Bool) (ks : Value) (hn : n < 18446744073709551616) :
    Writes 14 (.agg (rv 20 c nm n fl ks)) (fun _ _ => True) (counted (eNum c n fl)) 40 := by
  refine piece_any 20 c nm n fl ks _ (eNum c n fl) 40 steady_true ?_ (by decide) ?_
  · intro B b r w h _ hl _
    exact write_num B b r c nm n fl ks hn w h hl
  · intro r
    have a1 := put_len r [c]
    have a2 := put_len (r.put [c]) (negCode fl)
    have a3 := put_len ((r.put [c]).put (negCode fl)) (h16 n ++ [95])
    have HL := h16_len n 15 (by omega)
    have L3 : (negCode fl).length ≤ 1 := by cases fl <;> simp [negCode]
    simp only [List.length_append, List.length_cons, List.length_nil] at a1 a2 a3
    unfold eNum
    omega
theorem piece_hole (c : UInt8) (nm : List UInt8) (n : Nat) (fl : Bool) (ks : Value) :
    Writes 14 (.agg (rv 21 c nm n fl ks)) (fun _ _ => True) (counted fun r => r.put [112]) 40 := by
  refine piece_any 21 c nm n fl ks _ (fun r => r.put [112]) 40 steady_true ?_ (by decide) ?_
  · intro B b r w h _ hl _
    exact write_hole B b r c nm n fl ks w h (by omega)
  · intro r
    have a1 := put_len r [112]
    simp only [List.length_cons, List.length_nil] at a1
    omega

theorem put3 (r : WR) (l m k : List UInt8) (h : r.empty = false) : ((r.put l).put m).put k = { r with out := r.out ++ (l ++ (m ++ k)), empty := false } := by
  rw [WR.put_plain r l h]
  have h2 := WR.put_plain { r with out := r.out ++ l, empty := false } m rfl
  rw [h2]
  have h3 := WR.put_plain { r with out := (r.out ++ l) ++ m, empty := false } k rfl
  rw [h3]
  simp

theorem num_piece (c : UInt8) (n : Nat) (fl : Bool) : pieceText (counted (eNum c n fl) (W0 false)) = c :: (negCode fl ++ (h16 n ++ [95])) := by
  have e : eNum c n fl (W0 false) = { W0 false with out := c :: (negCode fl ++ (h16 n ++ [95])) } := by
    unfold eNum
    rw [put3 _ _ _ _ rfl]
    simp [W0]
  rw [counted_false _ rfl, e]
  rfl
theorem hole_piece : pieceText (counted (fun r => r.put [112]) (W0 false)) = [112] := by
  rw [counted_false _ rfl, WR.put_plain (W0 false) [112] rfl]
  rfl

/-- RustPiece of a constant. -/
theorem rustPiece_num (c : UInt8) (nm : List UInt8) (n : Nat) (fl : Bool) (ks : Value) (hn : n < 18446744073709551616) (B : Nat) (w : World) (ht : Tabs B w) (hB : B ≤ w.heap.size) :
    Calls Tryz.prog 8 #[.agg (rv 20 c nm n fl ks), .slice none 0 0] w fun en w' => en = .returned (.string (bs (c :: (negCode fl ++ (h16 n ++ [95]))))) ∧ Below w.heap.size w w' := by
  have HL := h16_len n 15 (by omega)
  have L3 : (negCode fl).length ≤ 1 := by cases fl <;> simp [negCode]
  have h := rustPiece_any 20 c nm n fl ks _ _ 40 steady_true (piece_num c nm n fl ks hn) (by decide) (by
    have := congrArg List.length (num_piece c n fl)
    have e : (counted (eNum c n fl) (W0 false)).empty = false := by rw [counted_false _ rfl]; unfold eNum; rw [put3 _ _ _ _ rfl]
    simp only [pieceText, e, Bool.false_eq_true, if_false, List.length_cons, List.length_append, List.length_nil] at this
    omega) B w ht hB trivial
  rw [num_piece] at h
  exact h
theorem rustPiece_hole (c : UInt8) (nm : List UInt8) (n : Nat) (fl : Bool) (ks : Value) (B : Nat) (w : World) (ht : Tabs B w) (hB : B ≤ w.heap.size) :
    Calls Tryz.prog 8 #[.agg (rv 21 c nm n fl ks), .slice none 0 0] w fun en w' => en = .returned (.string (bs [112])) ∧ Below w.heap.size w w' := by
  have h := rustPiece_any 21 c nm n fl ks _ _ 40 steady_true (piece_hole c nm n fl ks) (by decide) (by
    rw [counted_false _ rfl, WR.put_plain (W0 false) [112] rfl]; decide) B w ht hB trivial
  rw [hole_piece] at h
  exact h
end Go.Proofs.YtlpbhfmhndhbkaaGreatDoor
