/- RustPiece of a constant. -/
import Derived.Test.YtaeiclgdhchneaaGreatDoorY31
import Derived.Test.YtaeiclgdhchneaaGreatDoorY04
import Derived.Test.YtaeiclgdhchneaaGreatDoorY02
namespace Go.Proofs.YtaeiclgdhchneaaGreatDoor
open Go.RowKit

theorem steady_true : Steady (fun _ _ => True) := ⟨fun _ _ _ _ _ => trivial, fun _ _ _ _ _ => trivial⟩

theorem put_len (r : WR) (l : List UInt8) : (r.put l).out.length ≤ r.out.length + l.length + 1 ∧ (r.put l).cnt = r.cnt := by
  unfold WR.put
  split
  · exact ⟨by omega, rfl⟩
  · refine ⟨?_, rfl⟩
    simp only [List.length_append, sepOf]
    split <;> simp <;> omega

/-- What writing a number does. -/
def eNum (c : UInt8) (n : Nat) (fl : Bool) (r : WR) : WR := ((r.put [c]).put (negCode fl)).put (h16 n ++ [95])

theorem piece_num (c : UInt8) (nm : List UInt8) (n : Nat) (fl : Bool) (ks : Value) (hn : n < 18446744073709551616) :
    Writes 32 (.agg (rv 20 c nm n fl ks)) (fun _ _ => True) (counted (eNum c n fl)) 40 := by
  refine piece_any 20 c nm n fl ks _ (eNum c n fl) 40 steady_true ?_ (by decide) ?_
  · intro B b r w h _ hl _
    exact write_num B b r c nm n fl ks hn w h hl
  · intro r
    have a1 := put_len r [c]
    have a2 := put_len (r.put [c]) (negCode fl)
    have a3 := put_len ((r.put [c]).put (negCode fl)) (h16 n ++ [95])
    have HL := h16_len n 15 (by omega)
    have L3 : (negCode fl).length ≤ 1 := by cases fl <;> simp [negCode]
    simp only [List.length_append, List.length_cons, List.length_nil] at a1 a2 a3
    unfold eNum
    omega
theorem piece_hole (c : UInt8) (nm : List UInt8) (n : Nat) (fl : Bool) (ks : Value) :
    Writes 32 (.agg (rv 21 c nm n fl ks)) (fun _ _ => True) (counted fun r => r.put [112]) 40 := by
  refine piece_any 21 c nm n fl ks _ (fun r => r.put [112]) 40 steady_true ?_ (by decide) ?_
  · intro B b r w h _ hl _
    exact write_hole B b r c nm n fl ks w h (by omega)
  · intro r
    have a1 := put_len r [112]
    simp only [List.length_cons, List.length_nil] at a1
    omega

theorem put3 (r : WR) (l m k : List UInt8) (h : r.empty = false) : ((r.put l).put m).put k = { r with out := r.out ++ (l ++ (m ++ k)), empty := false } := by
  rw [WR.put_plain r l h]
  have h2 := WR.put_plain { r with out := r.out ++ l, empty := false } m rfl
  rw [h2]
  have h3 := WR.put_plain { r with out := (r.out ++ l) ++ m, empty := false } k rfl
  rw [h3]
  simp

theorem num_piece (c : UInt8) (n : Nat) (fl : Bool) : pieceText (counted (eNum c n fl) (W0 false)) = c :: (negCode fl ++ (h16 n ++ [95])) := by
  have e : eNum c n fl (W0 false) = { W0 false with out := c :: (negCode fl ++ (h16 n ++ [95])) } := by
    unfold eNum
    rw [put3 _ _ _ _ rfl]
    simp [W0]
  rw [counted_false _ rfl, e]
  rfl
theorem hole_piece : pieceText (counted (fun r => r.put [112]) (W0 false)) = [112] := by
  rw [counted_false _ rfl, WR.put_plain (W0 false) [112] rfl]
  rfl

/-- RustPiece of a constant. -/
theorem rustPiece_num (c : UInt8) (nm : List UInt8) (n : Nat) (fl : Bool) (ks : Value) (hn : n < 18446744073709551616) (B : Nat) (w : World) (ht : Tabs B w) (hB : B ≤ w.heap.size) :
    Calls Tryz.prog 24 #[.agg (rv 20 c nm n fl ks), .slice none 0 0] w fun en w' => en = .returned (.string (bs (c :: (negCode fl ++ (h16 n ++ [95]))))) ∧ Below w.heap.size w w' := by
  have HL := h16_len n 15 (by omega)
  have L3 : (negCode fl).length ≤ 1 := by cases fl <;> simp [negCode]
  have h := rustPiece_any 20 c nm n fl ks _ _ 40 steady_true (piece_num c nm n fl ks hn) (by decide) (by
    have := congrArg List.length (num_piece c n fl)
    have e : (counted (eNum c n fl) (W0 false)).empty = false := by rw [counted_false _ rfl]; unfold eNum; rw [put3 _ _ _ _ rfl]
    simp only [pieceText, e, Bool.false_eq_true, if_false, List.length_cons, List.length_append, List.length_nil] at this
    omega) B w ht hB trivial
  rw [num_piece] at h
  exact h
theorem rustPiece_hole (c : UInt8) (nm : List UInt8) (n : Nat) (fl : Bool) (ks : Value) (B : Nat) (w : World) (ht : Tabs B w) (hB : B ≤ w.heap.size) :
    Calls Tryz.prog 24 #[.agg (rv 21 c nm n fl ks), .slice none 0 0] w fun en w' => en = .returned (.string (bs [112])) ∧ Below w.heap.size w w' := by
  have h := rustPiece_any 21 c nm n fl ks _ _ 40 steady_true (piece_hole c nm n fl ks) (by decide) (by
    rw [counted_false _ rfl, WR.put_plain (W0 false) [112] rfl]; decide) B w ht hB trivial
  rw [hole_piece] at h
  exact h
end Go.Proofs.YtaeiclgdhchneaaGreatDoor

/- Which right types are told as (). No program in sight. -/
namespace Go.Proofs.YtaeiclgdhchneaaGreatDoor

theorem txt_ne {b : Nat} {t : RT} (h : Rt b t) (hk : isTypeK t.kd) (m : Md) (lb : Nat) : txt m lb t ≠ [] := by
  cases h with
  | crate b c nm n fl hn hm =>
    intro e
    have e : nm = [] := by simpa [txt] using e
    subst e
    exact absurd hm (by decide)
  | impl | timpl | tdef => simp [txt]
  | nested b c nm n fl p hn hc hp kp =>
    simp only [txt]
    unfold nestText
    intro he
    simp at he
    split at he <;> simp at he
  | gen b c nm n fl p gs =>
    simp only [txt]
    intro he
    simp at he
  | basic b c nm n fl hc => simpa [txt] using hc
  | arr | slice | tuple | ref | «mut» | cptr | mptr => simp [txt]
  | fn | dyn => simp [txt]
  | _ => exact absurd hk (by unfold isTypeK; simp [RT.kd])

set_option maxRecDepth 10000 in
theorem unit_low : ∀ c, c < 128 → basicText c = [40, 41] → c = 117 := by decide +kernel
theorem unit_basic {c : Nat} (h : basicText c = [40, 41]) : c = 117 := by
  by_cases hc : c < 128
  · exact unit_low c hc h
  · exfalso
    unfold basicText at h
    rw [if_neg (show ¬ c = 97 by omega), if_neg (show ¬ c = 98 by omega), if_neg (show ¬ c = 99 by omega), if_neg (show ¬ c = 100 by omega), if_neg (show ¬ c = 101 by omega), if_neg (show ¬ c = 102 by omega), if_neg (show ¬ c = 104 by omega), if_neg (show ¬ c = 105 by omega), if_neg (show ¬ c = 106 by omega), if_neg (show ¬ c = 108 by omega), if_neg (show ¬ c = 109 by omega), if_neg (show ¬ c = 110 by omega), if_neg (show ¬ c = 111 by omega), if_neg (show ¬ c = 112 by omega), if_neg (show ¬ c = 115 by omega), if_neg (show ¬ c = 116 by omega), if_neg (show ¬ c = 117 by omega), if_neg (show ¬ c = 118 by omega), if_neg (show ¬ c = 120 by omega), if_neg (show ¬ c = 121 by omega), if_neg (show ¬ c = 122 by omega)] at h
    cases h

theorem tell_unit {t : RT} (h : Rt 0 t) (hk : isTypeK t.kd) (he : txt .t 0 t = [40, 41]) : (t.kd = 7 ∧ t.c = 117) ∨ (t.kd = 10 ∧ t.ks = []) := by
  cases h with
  | crate b c nm n fl hn hm =>
    have e : nm = [40, 41] := by simpa [txt] using he
    subst e
    exact absurd hm (by decide)
  | impl | timpl | tdef => simp [txt] at he
  | nested b c nm n fl p hn hc hp kp =>
    have h58 : (58 : UInt8) ∈ txt .t 0 (.mk 5 c nm n fl [p]) := by
      simp only [txt]
      unfold nestText
      simp
      split <;> simp
    rw [he] at h58
    exact absurd h58 (by decide)
  | gen b c nm n fl p gs =>
    have h60 : (60 : UInt8) ∈ txt .t 0 (.mk 6 c nm n fl (p :: gs)) := by simp [txt]
    rw [he] at h60
    exact absurd h60 (by decide)
  | basic b c nm n fl hc =>
    refine .inl ⟨rfl, ?_⟩
    have h1 : basicText c.toNat = [40, 41] := by simpa [txt] using he
    exact UInt8.toNat_inj.1 (by show c.toNat = 117; exact unit_basic h1)
  | tuple b c nm n fl ts ht kt =>
    refine .inr ⟨rfl, ?_⟩
    cases ts with
    | nil => rfl
    | cons x ts =>
      exfalso
      have h1 := txt_ne (ht x (by simp)) (kt x (by simp)) .t 0
      have h2 := congrArg List.length he
      have h3 : 0 < (txt .t 0 x).length := List.length_pos_iff.2 h1
      simp [txt, txtsT, joined] at h2
      omega
  | arr | slice | ref | «mut» | cptr | mptr => simp [txt] at he
  | fn b c nm n fl ps r =>
    have h60 : (110 : UInt8) ∈ txt .t 0 (.mk 15 c nm n fl (ps ++ [r])) := by simp [txt]
    rw [he] at h60
    exact absurd h60 (by decide)
  | dyn b c nm n fl bs l =>
    have h60 : (110 : UInt8) ∈ txt .t 0 (.mk 16 c nm n fl (bs ++ [l])) := by simp [txt]
    rw [he] at h60
    exact absurd h60 (by decide)
  | _ => exact absurd hk (by unfold isTypeK; simp [RT.kd])
theorem tell_u {t : RT} (h : t.kd = 7 ∧ t.c = 117) (m : Md) (lb : Nat) : txt m lb t = [40, 41] := by
  cases t with
  | mk kd c nm n fl ks =>
    obtain ⟨h1, h2⟩ := h
    have h1' : kd = 7 := h1
    have h2' : c = 117 := h2
    subst h1'; subst h2'
    simp [txt, basicText]
end Go.Proofs.YtaeiclgdhchneaaGreatDoor

