/- The writer at plain types. -/
import Derived.Test.YtidokamjbglkbaaGreatDoorY26
import Derived.Test.YtidokamjbglkbaaGreatDoorY28
namespace Go.Proofs.YtidokamjbglkbaaGreatDoor
open Go.RowKit

set_option maxHeartbeats 4000000 in
set_option maxRecDepth 100000 in
theorem wplain_arr (M B b : Nat) (r : WR) (w : World) (c : UInt8) (nm : List UInt8) (n : Nat) (fl : Bool) (a : Option Addr) (m cap : Nat) (V : Nat → Array Value) (ks : List RT) (hP : ∀ x ∈ ks, PieceW x) (h : Wr B b r w) (K : KW M B w a m V ks) (hr : roomy r (1200 * (1 + sizes ks))) :
    Calls Tryz.prog 42 #[.pointer (some ⟨b, 0, none⟩), .agg (rv 8 c nm n fl (.slice a m cap))] w (WrP B b (r.body (.mk 8 c nm n fl ks)) w) := by
  have S0 := Lib.hid (WX.start (rv 8 c nm n fl (.slice a m cap)) h)
  have r1 : roomy (r.put [65]) (1100 + 1200 * sizes ks) := roomy.put 100 (hr.le (by omega)) (by simp)
  have D1 := Lib.hid (does_put (B := B) (b := b) (cs := (rv 8 c nm n fl (.slice a m cap))) (w0 := w) [65] (hr.le (by omega)) (by simp))
  by_cases hz : n = 0
  · have hz' : ¬ 0 < n := by omega
    have D3 := Lib.hid (does_pieces (b := b) (cs := (rv 8 c nm n fl (.slice a m cap))) cap K hP (r1.le (by omega)))
    have HE : Hid (((r.put [65]).trees ks) = r.body (.mk 8 c nm n fl ks)) := Lib.hid (by
      rw [WR.put_let r (by unfold letHd; decide), WR.trees_eq]
      cases ks <;> simp [WR.body, enc, emp, bnds, size, sizes, empL, encs, bndsL, Nat.add_assoc, Nat.add_comm 1]
      )
    clear hz h hr K hP r1
    go_enter Tryz.func42, Tryz.ntmps42
    go_wp2_with fail
    refine (D1.out _ S0.out).mono ?_
    rintro e w1 ⟨rfl, h1⟩
    obtain ⟨b0, _, _, b3, _, b5⟩ := h1.cells
    have S1 := Lib.hid h1
    clear h1
    go_wp2_with fail
    refine (D3.out _ S1.out).mono ?_
    rintro e w2 ⟨rfl, h2⟩
    obtain ⟨b0, _, _, _, _, _⟩ := h2.cells
    have S2 := Lib.hid h2
    clear h2
    go_wp2
    go_end0
    exact (S2.out).post HE.out
  · have hz' : 0 < n := by omega
    have D3 := Lib.hid (does_pieces (b := b) (cs := (rv 8 c nm n fl (.slice a m cap))) cap K hP (r1.le (by omega)))
    have HE : Hid (((r.put [65]).trees ks) = r.body (.mk 8 c nm n fl ks)) := Lib.hid (by
      rw [WR.put_let r (by unfold letHd; decide), WR.trees_eq]
      cases ks <;> simp [WR.body, enc, emp, bnds, size, sizes, empL, encs, bndsL, Nat.add_assoc, Nat.add_comm 1]
      )
    clear hz h hr K hP r1
    go_enter Tryz.func42, Tryz.ntmps42
    go_wp2_with fail
    refine (D1.out _ S0.out).mono ?_
    rintro e w1 ⟨rfl, h1⟩
    obtain ⟨b0, _, _, b3, _, b5⟩ := h1.cells
    have S1 := Lib.hid h1
    clear h1
    go_wp2_with fail
    refine (D3.out _ S1.out).mono ?_
    rintro e w2 ⟨rfl, h2⟩
    obtain ⟨b0, _, _, _, _, _⟩ := h2.cells
    have S2 := Lib.hid h2
    clear h2
    go_wp2
    go_end0
    exact (S2.out).post HE.out

set_option maxHeartbeats 4000000 in
set_option maxRecDepth 100000 in
theorem wplain_slice (M B b : Nat) (r : WR) (w : World) (c : UInt8) (nm : List UInt8) (n : Nat) (fl : Bool) (a : Option Addr) (m cap : Nat) (V : Nat → Array Value) (ks : List RT) (hP : ∀ x ∈ ks, PieceW x) (h : Wr B b r w) (K : KW M B w a m V ks) (hr : roomy r (1200 * (1 + sizes ks))) :
    Calls Tryz.prog 42 #[.pointer (some ⟨b, 0, none⟩), .agg (rv 9 c nm n fl (.slice a m cap))] w (WrP B b (r.body (.mk 9 c nm n fl ks)) w) := by
  have S0 := Lib.hid (WX.start (rv 9 c nm n fl (.slice a m cap)) h)
  have r1 : roomy (r.put [83]) (1100 + 1200 * sizes ks) := roomy.put 100 (hr.le (by omega)) (by simp)
  have D1 := Lib.hid (does_put (B := B) (b := b) (cs := (rv 9 c nm n fl (.slice a m cap))) (w0 := w) [83] (hr.le (by omega)) (by simp))
  by_cases hz : n = 0
  · have hz' : ¬ 0 < n := by omega
    have D3 := Lib.hid (does_pieces (b := b) (cs := (rv 9 c nm n fl (.slice a m cap))) cap K hP (r1.le (by omega)))
    have HE : Hid (((r.put [83]).trees ks) = r.body (.mk 9 c nm n fl ks)) := Lib.hid (by
      rw [WR.put_let r (by unfold letHd; decide), WR.trees_eq]
      cases ks <;> simp [WR.body, enc, emp, bnds, size, sizes, empL, encs, bndsL, Nat.add_assoc, Nat.add_comm 1]
      )
    clear hz h hr K hP r1
    go_enter Tryz.func42, Tryz.ntmps42
    go_wp2_with fail
    refine (D1.out _ S0.out).mono ?_
    rintro e w1 ⟨rfl, h1⟩
    obtain ⟨b0, _, _, b3, _, b5⟩ := h1.cells
    have S1 := Lib.hid h1
    clear h1
    go_wp2_with fail
    refine (D3.out _ S1.out).mono ?_
    rintro e w2 ⟨rfl, h2⟩
    obtain ⟨b0, _, _, _, _, _⟩ := h2.cells
    have S2 := Lib.hid h2
    clear h2
    go_wp2
    go_end0
    exact (S2.out).post HE.out
  · have hz' : 0 < n := by omega
    have D3 := Lib.hid (does_pieces (b := b) (cs := (rv 9 c nm n fl (.slice a m cap))) cap K hP (r1.le (by omega)))
    have HE : Hid (((r.put [83]).trees ks) = r.body (.mk 9 c nm n fl ks)) := Lib.hid (by
      rw [WR.put_let r (by unfold letHd; decide), WR.trees_eq]
      cases ks <;> simp [WR.body, enc, emp, bnds, size, sizes, empL, encs, bndsL, Nat.add_assoc, Nat.add_comm 1]
      )
    clear hz h hr K hP r1
    go_enter Tryz.func42, Tryz.ntmps42
    go_wp2_with fail
    refine (D1.out _ S0.out).mono ?_
    rintro e w1 ⟨rfl, h1⟩
    obtain ⟨b0, _, _, b3, _, b5⟩ := h1.cells
    have S1 := Lib.hid h1
    clear h1
    go_wp2_with fail
    refine (D3.out _ S1.out).mono ?_
    rintro e w2 ⟨rfl, h2⟩
    obtain ⟨b0, _, _, _, _, _⟩ := h2.cells
    have S2 := Lib.hid h2
    clear h2
    go_wp2
    go_end0
    exact (S2.out).post HE.out

set_option maxHeartbeats 4000000 in
set_option maxRecDepth 100000 in
theorem wplain_tuple (M B b : Nat) (r : WR) (w : World) (c : UInt8) (nm : List UInt8) (n : Nat) (fl : Bool) (a : Option Addr) (m cap : Nat) (V : Nat → Array Value) (ks : List RT) (hP : ∀ x ∈ ks, PieceW x) (h : Wr B b r w) (K : KW M B w a m V ks) (hr : roomy r (1200 * (1 + sizes ks))) :
    Calls Tryz.prog 42 #[.pointer (some ⟨b, 0, none⟩), .agg (rv 10 c nm n fl (.slice a m cap))] w (WrP B b (r.body (.mk 10 c nm n fl ks)) w) := by
  have S0 := Lib.hid (WX.start (rv 10 c nm n fl (.slice a m cap)) h)
  have r1 : roomy (r.put [84]) (1100 + 1200 * sizes ks) := roomy.put 100 (hr.le (by omega)) (by simp)
  have D1 := Lib.hid (does_put (B := B) (b := b) (cs := (rv 10 c nm n fl (.slice a m cap))) (w0 := w) [84] (hr.le (by omega)) (by simp))
  by_cases hz : n = 0
  · have hz' : ¬ 0 < n := by omega
    have D3 := Lib.hid (does_pieces (b := b) (cs := (rv 10 c nm n fl (.slice a m cap))) cap K hP (r1.le (by omega)))
    have r3 : roomy ((r.put [84]).trees ks) 100 := roomy.trees (r1.le (by omega)) K.el
    have D4 := Lib.hid (does_put (B := B) (b := b) (cs := (rv 10 c nm n fl (.slice a m cap))) (w0 := w) [69] (r3.le (by omega)) (by simp))
    have HE : Hid ((((r.put [84]).trees ks).put [69]) = r.body (.mk 10 c nm n fl ks)) := Lib.hid (by
      rw [WR.put_let r (by unfold letHd; decide), WR.trees_eq, WR.put_let _ (by unfold letHd; decide)]
      cases ks <;> simp [WR.body, enc, emp, bnds, size, sizes, encs, bndsL, Nat.add_assoc, Nat.add_comm 1]
      )
    clear hz h hr K hP r1 r3
    go_enter Tryz.func42, Tryz.ntmps42
    go_wp2_with fail
    refine (D1.out _ S0.out).mono ?_
    rintro e w1 ⟨rfl, h1⟩
    obtain ⟨b0, _, _, b3, _, b5⟩ := h1.cells
    have S1 := Lib.hid h1
    clear h1
    go_wp2_with fail
    refine (D3.out _ S1.out).mono ?_
    rintro e w2 ⟨rfl, h2⟩
    obtain ⟨b0, _, _, _, _, _⟩ := h2.cells
    have S2 := Lib.hid h2
    clear h2
    go_wp2_with fail
    refine (D4.out _ S2.out).mono ?_
    rintro e w3 ⟨rfl, h3⟩
    have S3 := Lib.hid h3
    clear h3
    go_wp2
    go_end0
    exact (S3.out).post HE.out
  · have hz' : 0 < n := by omega
    have D3 := Lib.hid (does_pieces (b := b) (cs := (rv 10 c nm n fl (.slice a m cap))) cap K hP (r1.le (by omega)))
    have r3 : roomy ((r.put [84]).trees ks) 100 := roomy.trees (r1.le (by omega)) K.el
    have D4 := Lib.hid (does_put (B := B) (b := b) (cs := (rv 10 c nm n fl (.slice a m cap))) (w0 := w) [69] (r3.le (by omega)) (by simp))
    have HE : Hid ((((r.put [84]).trees ks).put [69]) = r.body (.mk 10 c nm n fl ks)) := Lib.hid (by
      rw [WR.put_let r (by unfold letHd; decide), WR.trees_eq, WR.put_let _ (by unfold letHd; decide)]
      cases ks <;> simp [WR.body, enc, emp, bnds, size, sizes, encs, bndsL, Nat.add_assoc, Nat.add_comm 1]
      )
    clear hz h hr K hP r1 r3
    go_enter Tryz.func42, Tryz.ntmps42
    go_wp2_with fail
    refine (D1.out _ S0.out).mono ?_
    rintro e w1 ⟨rfl, h1⟩
    obtain ⟨b0, _, _, b3, _, b5⟩ := h1.cells
    have S1 := Lib.hid h1
    clear h1
    go_wp2_with fail
    refine (D3.out _ S1.out).mono ?_
    rintro e w2 ⟨rfl, h2⟩
    obtain ⟨b0, _, _, _, _, _⟩ := h2.cells
    have S2 := Lib.hid h2
    clear h2
    go_wp2_with fail
    refine (D4.out _ S2.out).mono ?_
    rintro e w3 ⟨rfl, h3⟩
    have S3 := Lib.hid h3
    clear h3
    go_wp2
    go_end0
    exact (S3.out).post HE.out

set_option maxHeartbeats 4000000 in
set_option maxRecDepth 100000 in
theorem wplain_ref (M B b : Nat) (r : WR) (w : World) (c : UInt8) (nm : List UInt8) (n : Nat) (fl : Bool) (a : Option Addr) (m cap : Nat) (V : Nat → Array Value) (ks : List RT) (hn : n ≤ 20) (hP : ∀ x ∈ ks, PieceW x) (h : Wr B b r w) (K : KW M B w a m V ks) (hr : roomy r (1200 * (1 + sizes ks))) :
    Calls Tryz.prog 42 #[.pointer (some ⟨b, 0, none⟩), .agg (rv 11 c nm n fl (.slice a m cap))] w (WrP B b (r.body (.mk 11 c nm n fl ks)) w) := by
  have S0 := Lib.hid (WX.start (rv 11 c nm n fl (.slice a m cap)) h)
  have r1 : roomy (r.put [82]) (1100 + 1200 * sizes ks) := roomy.put 100 (hr.le (by omega)) (by simp)
  have D1 := Lib.hid (does_put (B := B) (b := b) (cs := (rv 11 c nm n fl (.slice a m cap))) (w0 := w) [82] (hr.le (by omega)) (by simp))
  by_cases hz : n = 0
  · have hz' : ¬ 0 < n := by omega
    have D3 := Lib.hid (does_pieces (b := b) (cs := (rv 11 c nm n fl (.slice a m cap))) cap K hP (r1.le (by omega)))
    have HE : Hid (((r.put [82]).trees ks) = r.body (.mk 11 c nm n fl ks)) := Lib.hid (by
      rw [WR.put_let r (by unfold letHd; decide), WR.trees_eq]
      cases ks <;> simp [WR.body, enc, emp, bnds, size, sizes, empL, encs, bndsL, Nat.add_assoc, Nat.add_comm 1, hz]
      )
    clear hz h hr K hP r1
    go_enter Tryz.func42, Tryz.ntmps42
    go_wp2_with fail
    refine (D1.out _ S0.out).mono ?_
    rintro e w1 ⟨rfl, h1⟩
    obtain ⟨b0, _, _, b3, _, b5⟩ := h1.cells
    have S1 := Lib.hid h1
    clear h1
    go_wp2_with fail
    refine (D3.out _ S1.out).mono ?_
    rintro e w2 ⟨rfl, h2⟩
    obtain ⟨b0, _, _, _, _, _⟩ := h2.cells
    have S2 := Lib.hid h2
    clear h2
    go_wp2
    go_end0
    exact (S2.out).post HE.out
  · have HD := Lib.hid (fun w => base62_text n (by omega) w)
    have LD := b62_len n (by omega)
    have hmx : ¬ 9223372036854775807 < (b62 n).length + 1 := by omega
    have eb := bs_cons 76 (b62 n)
    have hz' : 0 < n := by omega
    have r2 : roomy ((r.put [82]).put (76 :: b62 n)) (1000 + 1200 * sizes ks) := roomy.put 100 (r1.le (by omega)) (by simp; omega)
    have D3 := Lib.hid (does_pieces (b := b) (cs := (rv 11 c nm n fl (.slice a m cap))) cap K hP (r2.le (by omega)))
    have HE : Hid ((((r.put [82]).put (76 :: b62 n)).trees ks) = r.body (.mk 11 c nm n fl ks)) := Lib.hid (by
      rw [WR.put_let r (by unfold letHd; decide), WR.put_let _ (by unfold letHd; decide), WR.trees_eq]
      cases ks <;> simp [WR.body, enc, emp, bnds, size, sizes, empL, encs, bndsL, lifeCode, hz, Nat.add_assoc, Nat.add_comm 1]
      )
    have D2 := Lib.hid (does_put (B := B) (b := b) (cs := (rv 11 c nm n fl (.slice a m cap))) (w0 := w) (76 :: b62 n) (r1.le (by omega)) (by simp; omega))
    clear LD
    clear hz h hr K hP r1 r2
    go_enter Tryz.func42, Tryz.ntmps42
    go_wp2_with fail
    refine (D1.out _ S0.out).mono ?_
    rintro e w1 ⟨rfl, h1⟩
    obtain ⟨b0, _, _, b3, _, b5⟩ := h1.cells
    have S1 := Lib.hid h1
    clear h1
    go_wp2_with fail
    refine (HD.out _).mono ?_
    rintro e w2 ⟨rfl, q2, rfl⟩
    have S2 := Lib.hid ((S1.out).drewN q2)
    go_wp2_with fail
    refine (D2.out _ S2.out).mono ?_
    rintro e w3 ⟨rfl, h3⟩
    obtain ⟨_, _, _, _, _, b5⟩ := h3.cells
    have S3 := Lib.hid h3
    clear h3
    go_wp2_with fail
    refine (D3.out _ S3.out).mono ?_
    rintro e w4 ⟨rfl, h4⟩
    obtain ⟨b0, _, _, _, _, _⟩ := h4.cells
    have S4 := Lib.hid h4
    clear h4
    go_wp2
    go_end0
    exact (S4.out).post HE.out

set_option maxHeartbeats 4000000 in
set_option maxRecDepth 100000 in
theorem wplain_mut (M B b : Nat) (r : WR) (w : World) (c : UInt8) (nm : List UInt8) (n : Nat) (fl : Bool) (a : Option Addr) (m cap : Nat) (V : Nat → Array Value) (ks : List RT) (hn : n ≤ 20) (hP : ∀ x ∈ ks, PieceW x) (h : Wr B b r w) (K : KW M B w a m V ks) (hr : roomy r (1200 * (1 + sizes ks))) :
    Calls Tryz.prog 42 #[.pointer (some ⟨b, 0, none⟩), .agg (rv 12 c nm n fl (.slice a m cap))] w (WrP B b (r.body (.mk 12 c nm n fl ks)) w) := by
  have S0 := Lib.hid (WX.start (rv 12 c nm n fl (.slice a m cap)) h)
  have r1 : roomy (r.put [81]) (1100 + 1200 * sizes ks) := roomy.put 100 (hr.le (by omega)) (by simp)
  have D1 := Lib.hid (does_put (B := B) (b := b) (cs := (rv 12 c nm n fl (.slice a m cap))) (w0 := w) [81] (hr.le (by omega)) (by simp))
  by_cases hz : n = 0
  · have hz' : ¬ 0 < n := by omega
    have D3 := Lib.hid (does_pieces (b := b) (cs := (rv 12 c nm n fl (.slice a m cap))) cap K hP (r1.le (by omega)))
    have HE : Hid (((r.put [81]).trees ks) = r.body (.mk 12 c nm n fl ks)) := Lib.hid (by
      rw [WR.put_let r (by unfold letHd; decide), WR.trees_eq]
      cases ks <;> simp [WR.body, enc, emp, bnds, size, sizes, empL, encs, bndsL, Nat.add_assoc, Nat.add_comm 1, hz]
      )
    clear hz h hr K hP r1
    go_enter Tryz.func42, Tryz.ntmps42
    go_wp2_with fail
    refine (D1.out _ S0.out).mono ?_
    rintro e w1 ⟨rfl, h1⟩
    obtain ⟨b0, _, _, b3, _, b5⟩ := h1.cells
    have S1 := Lib.hid h1
    clear h1
    go_wp2_with fail
    refine (D3.out _ S1.out).mono ?_
    rintro e w2 ⟨rfl, h2⟩
    obtain ⟨b0, _, _, _, _, _⟩ := h2.cells
    have S2 := Lib.hid h2
    clear h2
    go_wp2
    go_end0
    exact (S2.out).post HE.out
  · have HD := Lib.hid (fun w => base62_text n (by omega) w)
    have LD := b62_len n (by omega)
    have hmx : ¬ 9223372036854775807 < (b62 n).length + 1 := by omega
    have eb := bs_cons 76 (b62 n)
    have hz' : 0 < n := by omega
    have r2 : roomy ((r.put [81]).put (76 :: b62 n)) (1000 + 1200 * sizes ks) := roomy.put 100 (r1.le (by omega)) (by simp; omega)
    have D3 := Lib.hid (does_pieces (b := b) (cs := (rv 12 c nm n fl (.slice a m cap))) cap K hP (r2.le (by omega)))
    have HE : Hid ((((r.put [81]).put (76 :: b62 n)).trees ks) = r.body (.mk 12 c nm n fl ks)) := Lib.hid (by
      rw [WR.put_let r (by unfold letHd; decide), WR.put_let _ (by unfold letHd; decide), WR.trees_eq]
      cases ks <;> simp [WR.body, enc, emp, bnds, size, sizes, empL, encs, bndsL, lifeCode, hz, Nat.add_assoc, Nat.add_comm 1]
      )
    have D2 := Lib.hid (does_put (B := B) (b := b) (cs := (rv 12 c nm n fl (.slice a m cap))) (w0 := w) (76 :: b62 n) (r1.le (by omega)) (by simp; omega))
    clear LD
    clear hz h hr K hP r1 r2
    go_enter Tryz.func42, Tryz.ntmps42
    go_wp2_with fail
    refine (D1.out _ S0.out).mono ?_
    rintro e w1 ⟨rfl, h1⟩
    obtain ⟨b0, _, _, b3, _, b5⟩ := h1.cells
    have S1 := Lib.hid h1
    clear h1
    go_wp2_with fail
    refine (HD.out _).mono ?_
    rintro e w2 ⟨rfl, q2, rfl⟩
    have S2 := Lib.hid ((S1.out).drewN q2)
    go_wp2_with fail
    refine (D2.out _ S2.out).mono ?_
    rintro e w3 ⟨rfl, h3⟩
    obtain ⟨_, _, _, _, _, b5⟩ := h3.cells
    have S3 := Lib.hid h3
    clear h3
    go_wp2_with fail
    refine (D3.out _ S3.out).mono ?_
    rintro e w4 ⟨rfl, h4⟩
    obtain ⟨b0, _, _, _, _, _⟩ := h4.cells
    have S4 := Lib.hid h4
    clear h4
    go_wp2
    go_end0
    exact (S4.out).post HE.out

set_option maxHeartbeats 4000000 in
set_option maxRecDepth 100000 in
theorem wplain_cptr (M B b : Nat) (r : WR) (w : World) (c : UInt8) (nm : List UInt8) (n : Nat) (fl : Bool) (a : Option Addr) (m cap : Nat) (V : Nat → Array Value) (ks : List RT) (hP : ∀ x ∈ ks, PieceW x) (h : Wr B b r w) (K : KW M B w a m V ks) (hr : roomy r (1200 * (1 + sizes ks))) :
    Calls Tryz.prog 42 #[.pointer (some ⟨b, 0, none⟩), .agg (rv 13 c nm n fl (.slice a m cap))] w (WrP B b (r.body (.mk 13 c nm n fl ks)) w) := by
  have S0 := Lib.hid (WX.start (rv 13 c nm n fl (.slice a m cap)) h)
  have r1 : roomy (r.put [80]) (1100 + 1200 * sizes ks) := roomy.put 100 (hr.le (by omega)) (by simp)
  have D1 := Lib.hid (does_put (B := B) (b := b) (cs := (rv 13 c nm n fl (.slice a m cap))) (w0 := w) [80] (hr.le (by omega)) (by simp))
  by_cases hz : n = 0
  · have hz' : ¬ 0 < n := by omega
    have D3 := Lib.hid (does_pieces (b := b) (cs := (rv 13 c nm n fl (.slice a m cap))) cap K hP (r1.le (by omega)))
    have HE : Hid (((r.put [80]).trees ks) = r.body (.mk 13 c nm n fl ks)) := Lib.hid (by
      rw [WR.put_let r (by unfold letHd; decide), WR.trees_eq]
      cases ks <;> simp [WR.body, enc, emp, bnds, size, sizes, empL, encs, bndsL, Nat.add_assoc, Nat.add_comm 1]
      )
    clear hz h hr K hP r1
    go_enter Tryz.func42, Tryz.ntmps42
    go_wp2_with fail
    refine (D1.out _ S0.out).mono ?_
    rintro e w1 ⟨rfl, h1⟩
    obtain ⟨b0, _, _, b3, _, b5⟩ := h1.cells
    have S1 := Lib.hid h1
    clear h1
    go_wp2_with fail
    refine (D3.out _ S1.out).mono ?_
    rintro e w2 ⟨rfl, h2⟩
    obtain ⟨b0, _, _, _, _, _⟩ := h2.cells
    have S2 := Lib.hid h2
    clear h2
    go_wp2
    go_end0
    exact (S2.out).post HE.out
  · have hz' : 0 < n := by omega
    have D3 := Lib.hid (does_pieces (b := b) (cs := (rv 13 c nm n fl (.slice a m cap))) cap K hP (r1.le (by omega)))
    have HE : Hid (((r.put [80]).trees ks) = r.body (.mk 13 c nm n fl ks)) := Lib.hid (by
      rw [WR.put_let r (by unfold letHd; decide), WR.trees_eq]
      cases ks <;> simp [WR.body, enc, emp, bnds, size, sizes, empL, encs, bndsL, Nat.add_assoc, Nat.add_comm 1]
      )
    clear hz h hr K hP r1
    go_enter Tryz.func42, Tryz.ntmps42
    go_wp2_with fail
    refine (D1.out _ S0.out).mono ?_
    rintro e w1 ⟨rfl, h1⟩
    obtain ⟨b0, _, _, b3, _, b5⟩ := h1.cells
    have S1 := Lib.hid h1
    clear h1
    go_wp2_with fail
    refine (D3.out _ S1.out).mono ?_
    rintro e w2 ⟨rfl, h2⟩
    obtain ⟨b0, _, _, _, _, _⟩ := h2.cells
    have S2 := Lib.hid h2
    clear h2
    go_wp2
    go_end0
    exact (S2.out).post HE.out

set_option maxHeartbeats 4000000 in
set_option maxRecDepth 100000 in
theorem wplain_mptr (M B b : Nat) (r : WR) (w : World) (c : UInt8) (nm : List UInt8) (n : Nat) (fl : Bool) (a : Option Addr) (m cap : Nat) (V : Nat → Array Value) (ks : List RT) (hP : ∀ x ∈ ks, PieceW x) (h : Wr B b r w) (K : KW M B w a m V ks) (hr : roomy r (1200 * (1 + sizes ks))) :
    Calls Tryz.prog 42 #[.pointer (some ⟨b, 0, none⟩), .agg (rv 14 c nm n fl (.slice a m cap))] w (WrP B b (r.body (.mk 14 c nm n fl ks)) w) := by
  have S0 := Lib.hid (WX.start (rv 14 c nm n fl (.slice a m cap)) h)
  have r1 : roomy (r.put [79]) (1100 + 1200 * sizes ks) := roomy.put 100 (hr.le (by omega)) (by simp)
  have D1 := Lib.hid (does_put (B := B) (b := b) (cs := (rv 14 c nm n fl (.slice a m cap))) (w0 := w) [79] (hr.le (by omega)) (by simp))
  by_cases hz : n = 0
  · have hz' : ¬ 0 < n := by omega
    have D3 := Lib.hid (does_pieces (b := b) (cs := (rv 14 c nm n fl (.slice a m cap))) cap K hP (r1.le (by omega)))
    have HE : Hid (((r.put [79]).trees ks) = r.body (.mk 14 c nm n fl ks)) := Lib.hid (by
      rw [WR.put_let r (by unfold letHd; decide), WR.trees_eq]
      cases ks <;> simp [WR.body, enc, emp, bnds, size, sizes, empL, encs, bndsL, Nat.add_assoc, Nat.add_comm 1]
      )
    clear hz h hr K hP r1
    go_enter Tryz.func42, Tryz.ntmps42
    go_wp2_with fail
    refine (D1.out _ S0.out).mono ?_
    rintro e w1 ⟨rfl, h1⟩
    obtain ⟨b0, _, _, b3, _, b5⟩ := h1.cells
    have S1 := Lib.hid h1
    clear h1
    go_wp2_with fail
    refine (D3.out _ S1.out).mono ?_
    rintro e w2 ⟨rfl, h2⟩
    obtain ⟨b0, _, _, _, _, _⟩ := h2.cells
    have S2 := Lib.hid h2
    clear h2
    go_wp2
    go_end0
    exact (S2.out).post HE.out
  · have hz' : 0 < n := by omega
    have D3 := Lib.hid (does_pieces (b := b) (cs := (rv 14 c nm n fl (.slice a m cap))) cap K hP (r1.le (by omega)))
    have HE : Hid (((r.put [79]).trees ks) = r.body (.mk 14 c nm n fl ks)) := Lib.hid (by
      rw [WR.put_let r (by unfold letHd; decide), WR.trees_eq]
      cases ks <;> simp [WR.body, enc, emp, bnds, size, sizes, empL, encs, bndsL, Nat.add_assoc, Nat.add_comm 1]
      )
    clear hz h hr K hP r1
    go_enter Tryz.func42, Tryz.ntmps42
    go_wp2_with fail
    refine (D1.out _ S0.out).mono ?_
    rintro e w1 ⟨rfl, h1⟩
    obtain ⟨b0, _, _, b3, _, b5⟩ := h1.cells
    have S1 := Lib.hid h1
    clear h1
    go_wp2_with fail
    refine (D3.out _ S1.out).mono ?_
    rintro e w2 ⟨rfl, h2⟩
    obtain ⟨b0, _, _, _, _, _⟩ := h2.cells
    have S2 := Lib.hid h2
    clear h2
    go_wp2
    go_end0
    exact (S2.out).post HE.out

set_option maxHeartbeats 4000000 in
set_option maxRecDepth 100000 in
theorem wplain_basic (B b : Nat) (r : WR) (w : World) (c : UInt8) (nm : List UInt8) (n : Nat) (fl : Bool) (ks : Value) (hl : letHd c) (h : Wr B b r w) (hr : roomy r 1200) :
    Calls Tryz.prog 42 #[.pointer (some ⟨b, 0, none⟩), .agg (rv 7 c nm n fl ks)] w (WrP B b (r.body (.mk 7 c nm n fl [])) w) := by
  have S0 := Lib.hid ((WX.start (rv 7 c nm n fl ks) h).alloc (.cells #[.int .u8 c.toNat] tB))
  have q := conv1k (w.alloc (.cells (rv 7 c nm n fl ks) tRu)) (w.heap.size + 1) (by simp) c c.toNat rfl
  have D1 := Lib.hid (does_put (B := B) (b := b) (cs := (rv 7 c nm n fl ks)) (w0 := w) [c] (hr.le (by omega)) (by simp))
  have HE : Hid (r.put [c] = r.body (.mk 7 c nm n fl [])) := Lib.hid (by
    rw [WR.put_let r hl]
    simp [WR.body, enc, emp, bnds, size, sizes])
  clear h hr hl
  go_enter Tryz.func42, Tryz.ntmps42
  go_wp2_with fail
  refine (D1.out _ S0.out).mono ?_
  rintro e w1 ⟨rfl, h1⟩
  have S1 := Lib.hid h1
  clear h1
  go_wp2
  go_end0
  exact (S1.out).post HE.out

end Go.Proofs.YtidokamjbglkbaaGreatDoor

/- The writer: write, and every right tree is written as it is encoded. -/
namespace Go.Proofs.YtidokamjbglkbaaGreatDoor
open Go.RowKit

theorem WrP.of_alloc {B b : Nat} {r' : WR} {w w' : World} {o : Obj} {e : Ending} (h : WrP B b r' (w.alloc o) e w') : WrP B b r' w e w' := ⟨h.1, h.2.1, ((KeptM.refl (M := MW) (B := B) w).alloc o).trans h.2.2⟩

set_option maxHeartbeats 4000000 in
set_option maxRecDepth 100000 in
theorem write_path (B b : Nat) (r' : WR) (w : World) (kd : Int) (c : UInt8) (nm : List UInt8) (n : Nat) (fl : Bool) (kv : Value) (hk : 1 ≤ kd ∧ kd ≤ 6)
    (hc : Calls Tryz.prog 41 #[.pointer (some ⟨b, 0, none⟩), .agg (rv kd c nm n fl kv)] (w.alloc (.cells (rv kd c nm n fl kv) tRu)) (WrP B b r' (w.alloc (.cells (rv kd c nm n fl kv) tRu)))) :
    Calls Tryz.prog 30 #[.pointer (some ⟨b, 0, none⟩), .agg (rv kd c nm n fl kv)] w (WrP B b r' w) := by
  have HC := Lib.hid hc
  have hf : (decide (1 ≤ kd) && decide (kd ≤ 6)) = true := by simp [hk]
  clear hc hk
  go_enter Tryz.func30, Tryz.ntmps30
  go_wp2_with (go_at_call 35; refine (isPath_any _ _).mono ?_; rintro e w' ⟨rfl, rfl⟩; rw [hf])
  refine HC.out.mono ?_
  rintro e w1 h1
  have H1 := Lib.hid h1.of_alloc
  obtain ⟨rfl, _⟩ := h1
  clear HC
  go_wp2
  go_end0
  exact H1.out
set_option maxHeartbeats 4000000 in
set_option maxRecDepth 100000 in
theorem write_plain (B b : Nat) (r' : WR) (w : World) (kd : Int) (c : UInt8) (nm : List UInt8) (n : Nat) (fl : Bool) (kv : Value) (hk : 7 ≤ kd ∧ kd ≤ 14)
    (hc : Calls Tryz.prog 42 #[.pointer (some ⟨b, 0, none⟩), .agg (rv kd c nm n fl kv)] (w.alloc (.cells (rv kd c nm n fl kv) tRu)) (WrP B b r' (w.alloc (.cells (rv kd c nm n fl kv) tRu)))) :
    Calls Tryz.prog 30 #[.pointer (some ⟨b, 0, none⟩), .agg (rv kd c nm n fl kv)] w (WrP B b r' w) := by
  have HC := Lib.hid hc
  have hf : (decide (1 ≤ kd) && decide (kd ≤ 6)) = false := by simp; omega
  have hf2 : decide (kd ≤ 14) = true := by simp [hk]
  clear hc hk
  go_enter Tryz.func30, Tryz.ntmps30
  go_wp2_with (go_at_call 35; refine (isPath_any _ _).mono ?_; rintro e w' ⟨rfl, rfl⟩; rw [hf])
  refine HC.out.mono ?_
  rintro e w1 h1
  have H1 := Lib.hid h1.of_alloc
  obtain ⟨rfl, _⟩ := h1
  clear HC
  go_wp2
  go_end0
  exact H1.out
set_option maxHeartbeats 4000000 in
set_option maxRecDepth 100000 in
theorem write_other (B b : Nat) (r' : WR) (w : World) (kd : Int) (c : UInt8) (nm : List UInt8) (n : Nat) (fl : Bool) (kv : Value) (hk : kd = 15 ∨ kd = 16)
    (hc : Calls Tryz.prog 44 #[.pointer (some ⟨b, 0, none⟩), .agg (rv kd c nm n fl kv)] (w.alloc (.cells (rv kd c nm n fl kv) tRu)) (WrP B b r' (w.alloc (.cells (rv kd c nm n fl kv) tRu)))) :
    Calls Tryz.prog 30 #[.pointer (some ⟨b, 0, none⟩), .agg (rv kd c nm n fl kv)] w (WrP B b r' w) := by
  have HC := Lib.hid hc
  clear hc
  rcases hk with rfl | rfl
  all_goals
    go_enter Tryz.func30, Tryz.ntmps30
    go_wp2_with (go_at_call 35; refine (isPath_any _ _).mono ?_; rintro e w' ⟨rfl, rfl⟩)
    refine HC.out.mono ?_
    rintro e w1 h1
    have H1 := Lib.hid h1.of_alloc
    obtain ⟨rfl, _⟩ := h1
    clear HC
    go_wp2
    go_end0
    exact H1.out
end Go.Proofs.YtidokamjbglkbaaGreatDoor

