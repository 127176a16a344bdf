/- rustToString, Told and the laws' rustRefused, where the reader fails. -/
import Derived.Test.YtaeiclgdhchneaaGreatDoorZ02
import Derived.Test.YtaeiclgdhchneaaGreatDoorY10
import Derived.Test.YtaeiclgdhchneaaGreatDoorY31
import Derived.Test.YtaeiclgdhchneaaGreatDoorY21
import Derived.Test.YtaeiclgdhchneaaGreatDoorY27
import Derived.Test.YtaeiclgdhchneaaGreatDoorY32
import Derived.LaidLaws
namespace Go.Proofs.YtaeiclgdhchneaaGreatDoor
open Go.RowKit

set_option maxHeartbeats 4000000 in
set_option maxRecDepth 100000 in
theorem toString_dies (c : UInt8) (inp : List UInt8) (n : Nat) (hp : Refuses 67 #[] 0 false (c :: inp) n)
    (hdot : ∀ x ∈ 95 :: 82 :: c :: inp, x ≠ 46) (hlen : inp.length ≤ 100000000) (hn : n ≤ 1000000000) (B : Nat) (w : World) (hT : Tabs B w) (hB : B ≤ w.heap.size) :
    Calls Tryz.prog 49 #[.string (bs (95 :: 82 :: c :: inp)), .slice none 0 0] w fun e w' => (∃ (s : ByteArray) (off : Int), e = .returned (.tuple #[.string ⟨#[]⟩, .iface tDE (.agg #[.string s, .int .i64 off])])) ∧ Below w.heap.size w w' := by
  have hmf : ∀ (fn : Fn) (first cap : Array Value) (w : World), (Instr.makeFunc fn first cap).run Tryz.prog w = .ok (.func fn first cap) w := fun _ _ _ _ => rfl
  have HX := Lib.hid (fun w => index_none (95 :: 82 :: c :: inp) 46 hdot (by simp; omega) w)
  have HP : Hid (∀ w, Calls Tryz.prog 62 #[.string (bs (95 :: 82 :: c :: inp)), .string (bs [95, 82])] w fun e w' => e = .returned (.bool true) ∧ w' = w) := by
    intro w
    refine (Tryz.strings_HasPrefix (bs (95 :: 82 :: c :: inp)) (bs [95, 82]) w).mono ?_
    rintro e w' ⟨rfl, rfl⟩
    exact ⟨by simp [Lib.hasPrefix], rfl⟩
  have b1 : Below w.heap.size w ((w.alloc (.cells #[.string ⟨#[]⟩] 9)).alloc (.cells #[.nilIface] 65)) := ((Below.refl _ _).alloc (Nat.le_refl _) _).alloc (by simp) _
  have F := Rst.fresh (hT.same fun k hk => (b1.mono hB).block k hk) (by simp; omega : B ≤ ((w.alloc (.cells #[.string ⟨#[]⟩] 9)).alloc (.cells #[.nilIface] 65)).heap.size) (c :: inp) (by simp; omega)
  have b2 := Lib.hid (b1.alloc (by simp; omega) (.cells ((R0 (c :: inp)).cs (.pointer none) (.slice none 0 0)) tR))
  have e1 : ((w.alloc (.cells #[.string ⟨#[]⟩] 9)).alloc (.cells #[.nilIface] 65)).heap.size = w.heap.size + 1 + 1 := by simp
  rw [e1] at F
  have A := Lib.hid F
  have HS := Lib.hid hp
  have TL := Lib.hid hn
  have hex : (bs (95 :: 82 :: c :: inp)).extract 2 (inp.length + 1 + 1 + 1) = bs (c :: inp) := by rw [bs_extract]; congr 1; simp
  clear hp hdot hT hB b1 e1 F hn
  go_enter_defers Tryz.func49, Tryz.ntmps49
  go_wp2_with (first
    | (go_at_call 62; refine (HP.out _).mono ?_; rintro e w' ⟨rfl, rfl⟩)
    | (go_at_call 64; refine (HX.out _).mono ?_; rintro e w' ⟨rfl, rfl⟩)
    | (go_at_call 67; fail))
  go_loop [10, 38] (fun _ i => i = .int .i64 0) (fun _ _ => 0)
  case atStart => rfl
  case round =>
    subst hrel
    go_wp2_with (go_at_call 67; refine (HS.out _ _ _ _ A.out rfl rfl rfl (fun _ => by simpa [R0] using TL.out)).mono ?_)
    rintro e w1 ⟨s, off, rfl⟩ K
    have b3 := Lib.hid (b2.out.trans ((K.below (by simp)).mono (by omega)))
    have hb0 : w1.heap[w.heap.size]? = some (.cells #[.string ⟨#[]⟩] 9 (0, 0)) := by
      rw [K.block _ (by simp <;> omega) (.inl (by omega)), Below.heap_alloc _ _ _ (by simp <;> omega), Below.heap_alloc _ _ _ (by simp)]
      exact heap_alloc_new w _
    have hb1 : w1.heap[w.heap.size + 1]? = some (.cells #[.nilIface] 65 (0, 0)) := by
      rw [K.block _ (by simp) (.inl (by omega)), Below.heap_alloc _ _ _ (by simp)]
      have := heap_alloc_new (w.alloc (.cells #[.string ⟨#[]⟩] 9)) (.cells #[.nilIface] 65)
      simpa using this
    have HC := Lib.hid (top_catch w.heap.size s off [] w1 hb0 hb1)
    clear hb0 hb1 K A b2
    go_wp2
    refine leaves_cons (f := 63) (args := #[.pointer (some ⟨w.heap.size, 0, none⟩), .pointer (some ⟨w.heap.size + 1, 0, none⟩)]) (by simp) (by simp [go_sem]) ?_
    refine HC.out.mono ?_
    rintro e u' w2 ⟨rfl, rfl, d0, d1, b4⟩
    have E0 : w2.cell? ⟨w.heap.size, 0, none⟩ = some (.string ⟨#[]⟩) := by rw [cellAt d0]; rfl
    have E1 : w2.cell? ⟨w.heap.size + 1, 0, none⟩ = some (.iface tDE (.agg #[.string s, .int .i64 off])) := by rw [cellAt d1]; rfl
    have B5 := Lib.hid (b3.out.trans b4)
    clear d0 d1 b4
    simp [Leaves, settle, results, Tryz.results49, go_sem, E0, E1]
    exact B5.out

/-- A whole name is refused. -/
def RefusedAs (s : List UInt8) : Prop := ∀ (B : Nat) (w : World), Tabs B w → B ≤ w.heap.size →
  Calls Tryz.prog 49 #[.string (bs s), .slice none 0 0] w fun e w' => (∃ (m : ByteArray) (off : Int), e = .returned (.tuple #[.string ⟨#[]⟩, .iface tDE (.agg #[.string m, .int .i64 off])])) ∧ Below w.heap.size w w'

abbrev gErr : Nat := 0
/-- The variable of the one other error holds an error of another type. -/
def ErrAt (w : World) : Prop := ∃ (u : TypeId) (v : Value), u ≠ tDE ∧ w.cell? ⟨gErr, 0, none⟩ = some (.iface u v) ∧ gErr < w.heap.size
theorem ErrAt.step {w w' : World} (h : ErrAt w) (b : Below w.heap.size w w') : ErrAt w' := by
  obtain ⟨u, v, h1, h2, h3⟩ := h
  refine ⟨u, v, h1, ?_, by have := b.size; omega⟩
  rw [← h2]
  simp only [World.cell?, b.block _ h3]

/-- Errors of different types are different. -/
theorem eql_other {P : Program} (w : World) {t tx ty : TypeId} {ms : Array (String × TypeId)} (x y : Value) (ht : P.underlying t = some (.interface ms)) (hne : tx ≠ ty) :
    (binOp .eql t (.iface tx x) (.iface ty y)).run P w = .ok (.bool false) w := by
  have h : ∀ d : Nat, (Op.equalIn (d + 1) t (.iface tx x) (.iface ty y)).run P w = .ok false w := fun d => by
    simp [Op.equalIn, run_underlying ht, hne]
  simp only [binOp]
  simp [Op.equal, Op.maxDepth, h 9999]

set_option maxHeartbeats 1000000 in
set_option maxRecDepth 100000 in
theorem fault_any (m : ByteArray) (off : Int) (w : World) (h : ErrAt w) : Calls Tryz.prog 38 #[.iface tDE (.agg #[.string m, .int .i64 off])] w fun e w' => e = .returned (.int .i64 2) ∧ w' = w := by
  obtain ⟨u, v, hu, hc, _⟩ := h
  have he := eql_other w (.agg #[.string m, .int .i64 off]) v Tryz.underlying65 (fun e => hu e.symm)
  clear hu
  go_enter Tryz.func38, Tryz.ntmps38
  go_wp2
  go_ret
  exact ⟨rfl, rfl⟩

set_option maxHeartbeats 4000000 in
set_option maxRecDepth 100000 in
theorem told_refused (s : List UInt8) (h : RefusedAs s) (B : Nat) (w : World) (hT : Tabs B w) (hB : B ≤ w.heap.size) (hE : ErrAt w) :
    Calls Tryz.prog 31 #[.string (bs s), noOpts] w fun e w' => e = .returned (.tuple #[.string ⟨#[]⟩, .int .i64 2]) ∧ Below w.heap.size w w' := by
  have HH := Lib.hid h
  have HT := Lib.hid hT
  have HE := Lib.hid hE
  clear h hT hE
  go_enter Tryz.func31, Tryz.ntmps31
  go_wp2_with (go_at_call 37; refine (list_none _).mono ?_)
  rintro e w1 ⟨rfl, b1⟩
  have b2 := ((Below.refl w.heap.size w).alloc (Nat.le_refl _) _).trans (b1.mono (by simp))
  have T2 := Lib.hid (HT.out.same fun k hk => b2.block k (by omega))
  have B2 := Lib.hid b2
  have S2 := b2.size
  have S3 := Lib.hid (show B ≤ w1.heap.size by omega)
  clear b1 b2 S2
  go_wp2_with (first
    | (go_at_call 49; refine (HH.out B _ T2.out S3.out).mono ?_)
    | (go_at_call 36; go_in))
  rintro e w3 ⟨⟨m, off, rfl⟩, b3⟩
  have b4 := Lib.hid (B2.out.trans (b3.mono B2.out.size))
  have HF := Lib.hid (fault_any m off w3 (HE.out.step b4.out))
  clear b3 T2
  go_wp2_with (go_at_call 38; refine HF.out.mono ?_; rintro e w' ⟨rfl, rfl⟩)
  go_ret2
  exact ⟨rfl, b4.out⟩

set_option maxHeartbeats 4000000 in
set_option maxRecDepth 100000 in
theorem refused_any (s : List UInt8) (h : RefusedAs s) (B : Nat) (w : World) (hT : Tabs B w) (hB : B ≤ w.heap.size) (hE : ErrAt w) :
    Calls Tryz.prog 29 #[.string (bs s)] w fun e w' => e = .returned (.bool true) ∧ Below w.heap.size w w' := by
  have HD := Lib.hid (told_refused _ h B w hT hB hE)
  clear h hT hB hE
  go_enter Tryz.func29, Tryz.ntmps29
  go_wp2_with (go_at_call 31; refine HD.out.mono ?_)
  rintro e w1 ⟨rfl, b1⟩
  go_wp2
  go_ret
  exact ⟨rfl, b1⟩
end Go.Proofs.YtaeiclgdhchneaaGreatDoor

/- A byte behind a whole name is refused. -/
namespace Go.Proofs.YtaeiclgdhchneaaGreatDoor
open Go.RowKit

theorem last_app (l : List UInt8) {m : List UInt8} (h : m.getLast? = some 48) : (l ++ m).getLast? = some 48 := by simp [List.getLast?_append, h]
theorem last_cons (a : UInt8) {m : List UInt8} (h : m.getLast? = some 48) : (a :: m).getLast? = some 48 := last_app [a] h
theorem encs_last (ks : List RT) (h : ∀ t ∈ ks, emp t = true → (enc idW t).getLast? = some 48) (he : empL ks = true) : (encs idW ks).getLast? = some 48 := by
  induction ks with
  | nil => simp [empL] at he
  | cons k ks ih =>
    cases ks with
    | nil =>
      have := h k (by simp) (by simpa [empL] using he)
      simpa [encs] using this
    | cons k2 ks =>
      rw [encs]
      exact last_app _ (ih (fun t ht => h t (List.mem_cons_of_mem _ ht)) (by rw [empL] at he; exact he))
theorem encsE_last (ps : List RT) (r : RT) (h : emp r = true → (enc idW r).getLast? = some 48) (he : empL (ps ++ [r]) = true) : (encsE idW (ps ++ [r])).getLast? = some 48 := by
  rw [encsE_snoc]
  rw [empL_snoc] at he
  exact last_app _ (last_cons _ (h he))
/-- Where an empty name stands last, the name ends in 0. -/
theorem emp_last {b : Nat} {t : RT} (hr : Rt b t) (he : emp t = true) : (enc idW t).getLast? = some 48 := by
  induction hr with
  | crate | gen | basic | tuple | life | num | hole => simp [emp] at he
  | impl b c nm n fl p t hn hp kp ht kt ihp iht =>
    have e : enc idW (.mk 2 c nm n fl [p, t]) = 77 :: (dis n ++ encs idW [p, t]) := by simp [enc]
    rw [e]
    exact last_cons _ (last_app _ (encs_last _ (by simp; exact ⟨ihp, iht⟩) (by simpa [emp] using he)))
  | timpl b c nm n fl p t q hn hp kp ht kt hq kq ihp iht ihq =>
    have e : enc idW (.mk 3 c nm n fl [p, t, q]) = 88 :: (dis n ++ encs idW [p, t, q]) := by simp [enc]
    rw [e]
    exact last_cons _ (last_app _ (encs_last _ (by simp; exact ⟨ihp, iht, ihq⟩) (by simpa [emp] using he)))
  | tdef b c nm n fl t q hn ht kt hq kq iht ihq =>
    have e : enc idW (.mk 4 c nm n fl [t, q]) = 89 :: encs idW [t, q] := by simp [enc]
    rw [e]
    exact last_cons _ (encs_last _ (by simp; exact ⟨iht, ihq⟩) (by simpa [emp] using he))
  | nested b c nm n fl p hn hc hp kp ih =>
    have e0 : nm = [] := by simpa [emp] using he
    subst e0
    have e : enc idW (.mk 5 c [] n fl [p]) = 78 :: c :: (encs idW [p] ++ (pt (empL [p]) (dis n) ++ nameText idW (pe (empL [p]) (dis n)) [])) := by simp [enc]
    rw [e]
    refine last_cons _ (last_cons _ (last_app _ (last_app _ ?_)))
    simp [nameText, pt, List.getLast?_append]
  | arr b c nm n fl t k ht kt hk kk iht ihk =>
    have e : enc idW (.mk 8 c nm n fl [t, k]) = 65 :: encs idW [t, k] := by simp [enc]
    rw [e]
    exact last_cons _ (encs_last _ (by simp; exact ⟨iht, ihk⟩) (by simpa [emp] using he))
  | slice b c nm n fl t ht kt ih =>
    have e : enc idW (.mk 9 c nm n fl [t]) = 83 :: encs idW [t] := by simp [enc]
    rw [e]
    exact last_cons _ (encs_last _ (by simp; exact ih) (by simpa [emp] using he))
  | ref b c nm n fl t hn ht kt ih =>
    have e : enc idW (.mk 11 c nm n fl [t]) = 82 :: ((if n = 0 then [] else lifeCode n) ++ encs idW [t]) := by simp [enc]
    rw [e]
    exact last_cons _ (last_app _ (encs_last _ (by simp; exact ih) (by simpa [emp] using he)))
  | «mut» b c nm n fl t hn ht kt ih =>
    have e : enc idW (.mk 12 c nm n fl [t]) = 81 :: ((if n = 0 then [] else lifeCode n) ++ encs idW [t]) := by simp [enc]
    rw [e]
    exact last_cons _ (last_app _ (encs_last _ (by simp; exact ih) (by simpa [emp] using he)))
  | cptr b c nm n fl t ht kt ih =>
    have e : enc idW (.mk 13 c nm n fl [t]) = 80 :: encs idW [t] := by simp [enc]
    rw [e]
    exact last_cons _ (encs_last _ (by simp; exact ih) (by simpa [emp] using he))
  | mptr b c nm n fl t ht kt ih =>
    have e : enc idW (.mk 14 c nm n fl [t]) = 79 :: encs idW [t] := by simp [enc]
    rw [e]
    exact last_cons _ (encs_last _ (by simp; exact ih) (by simpa [emp] using he))
  | fn b c nm n fl ps r hn ha hr0 hp kp hr kr ihp ihr =>
    have e : enc idW (.mk 15 c nm n fl (ps ++ [r])) = 70 :: (binder n ++ (fnHead idW nm fl ++ encsE idW (ps ++ [r]))) := by rw [enc]; simp
    rw [e]
    exact last_cons _ (last_app _ (last_app _ (encsE_last _ _ ihr (by simpa [emp] using he))))
  | dyn b c nm n fl bs l hn hb0 hb kb hl kl ihb ihl =>
    have e : enc idW (.mk 16 c nm n fl (bs ++ [l])) = 68 :: (binder n ++ encsE idW (bs ++ [l])) := by rw [enc]; simp
    rw [e]
    exact last_cons _ (last_app _ (encsE_last _ _ ihl (by simpa [emp] using he)))
  | bound b c nm n fl p bd hp kp hb kb ihp ihb =>
    have e : enc idW (.mk 17 c nm n fl (p :: bd)) = encs idW (p :: bd) := by simp [enc]
    rw [e]
    refine encs_last _ ?_ (by simpa [emp] using he)
    intro t ht
    rcases List.mem_cons.1 ht with rfl | ht
    · exact ihp
    · exact ihb t ht
  | binding b c nm n fl t hm ht kt ih =>
    have e : enc idW (.mk 18 c nm n fl [t]) = 112 :: (idW nm ++ encs idW [t]) := by simp [enc]
    rw [e]
    exact last_cons _ (last_app _ (encs_last _ (by simp; exact ih) (by simpa [emp] using he)))

/-- A byte behind a whole name. -/
theorem FitP.more {t : RT} (h : FitP t) (d : UInt8) (h46 : d ≠ 46) (hup : ¬ (65 ≤ d.toNat ∧ d.toNat ≤ 90)) (h0 : (enc idW t).getLast? = some 48 → ¬ (d.toNat = 95 ∨ (48 ≤ d.toNat ∧ d.toNat ≤ 57))) : RefusedAs (95 :: 82 :: (enc idW t ++ [d])) := by
  intro B w hT hB
  obtain ⟨c, l, e, hd⟩ := enc_head (idw := idW) h.fit.rt
  have hs : Sep (emp t) [] [d] := by
    unfold Sep
    split
    · rename_i he
      have := h0 (emp_last h.fit.rt he)
      refine .inr ⟨rfl, ?_, ?_⟩
      · intro x hx; simp at hx; subst hx; unfold is10; omega
      · intro x hx; simp at hx; subst hx; omega
    · rfl
  have ht : Told t 0 false [] [d] := told_all (off := 0) (T := (enc idW t).length) h.fit.rt (by omega) (by omega) (fun _ => rfl) (by have := h.fit.sz; omega) h.fit.room (by omega) hs
  have hp := ht.path h.pk true
  have hlen := h.fit.len
  rw [pieceOf_eq, List.length_append] at hlen
  have h46' := (enc_ok _ t (Nat.le_refl _) 0 (by omega) h.fit.rt).1
  simp only [List.nil_append] at hp
  rw [e] at hp hlen h46' ⊢
  rw [List.cons_append] at hp ⊢
  have hsy := symbol_more c d (l ++ [d]) [] _ NS hp (hd.path h.pk).ne48 (path_other false 0 true d [] hup)
  refine toString_dies c (l ++ [d]) _ hsy ?_ (by simp at hlen ⊢; omega) (by have := h.tlenP (.p true); omega) B w hT hB
  intro x hx
  simp only [List.mem_cons, List.mem_append, List.not_mem_nil, or_false] at hx
  rcases hx with rfl | rfl | rfl | hx | rfl
  · decide
  · decide
  · intro e; subst e; exact h46' 46 (by simp) rfl
  · intro e; subst e; exact h46' 46 (by simp [hx]) rfl
  · exact h46
end Go.Proofs.YtaeiclgdhchneaaGreatDoor

/- The law on a byte behind a whole name. -/
namespace Go.Proofs.YtaeiclgdhchneaaGreatDoor
open Go.RowKit

set_option maxHeartbeats 4000000 in
set_option maxRecDepth 100000 in
theorem law_more {M : Nat} (t : RT) (hM : M ≤ 2147483647) (d : UInt8) (cs : Array Value) (B : Nat) (w : World) (ht : Tabs B w) (hB : B ≤ w.heap.size) (hE : ErrAt w) (hT : TreeAt M B w cs t) :
    Calls Tryz.prog 14 #[.agg cs, .int .u8 d.toNat] w fun e w' => e = .returned (.bool true) ∧ Below w.heap.size w w' := by
  obtain ⟨kd, c, nm, n, fl, a, m, cap, rfl, _, _⟩ := hT.inv
  obtain ⟨P, fP, hS, hC, hR⟩ : ∃ P : World → Prop, Firm P ∧ Sta w P (w.alloc (.cells (rv kd c nm n fl (.slice a m cap)) tRu)) ∧ (∀ w', P w' → Blk w.heap.size (rv kd c nm n fl (.slice a m cap)) tRu w') ∧ (∀ w', P w' → TreeAt M w'.heap.size w' (rv kd c nm n fl (.slice a m cap)) t) :=
    ⟨_, firm_and (firm_tre M (rv kd c nm n fl (.slice a m cap)) t) (firm_blk _ _ _), (Sta.start ht hB ⟨B, hB, hT⟩ : Sta w (Tre M (rv kd c nm n fl (.slice a m cap)) t) w).alloc (firm_tre _ _ _) (rv kd c nm n fl (.slice a m cap)) tRu, fun _ h => h.2, fun _ h => h.1.at⟩
  have CL := Lib.hid (fun w' (h : Sta w P w') => (hC w' h.keep).cells)
  have S0 := Lib.hid hS
  have HZ := Lib.hid (fun w' (h : Sta w P w') => (fits2_any kd c nm n fl a m cap w').mono (R' := fun e w'' => ∃ bl : Bool, e = .returned (.bool bl) ∧ Sta w P w'') fun _ _ ⟨bl, e, b⟩ => ⟨bl, e, h.step fP b⟩)
  have HF := Lib.hid (fun w' (h : Sta w P w') => h.callB fP (rustFits_any t kd c nm n fl (.slice a m cap) hM w'.heap.size w' h.tabs (Nat.le_refl _) (hR w' h.keep)))
  have HN := Lib.hid (fun (hf : FitP t) (e0 : List UInt8) (x : UInt8) (hx : enc idW t = e0 ++ [x]) w' (h : Sta w P w') => h.call fP (Q := fun e => e = .returned (.string (bs (95 :: 82 :: (e0 ++ [x]))))) (hx ▸ name_text t (by omega : 0 ≤ 20) hf.fit.rt hf.fit.kd hf.fit.sz kd c nm n fl (.slice a m cap) w'.heap.size w' h.tabs (Nat.le_refl _) (hR w' h.keep)))
  have HEX : Hid (FitP t → ∃ e0 x, enc idW t = e0 ++ [x]) := Lib.hid (fun hf => by
    obtain ⟨c, l, e, _⟩ := enc_head (idw := idW) hf.fit.rt
    exact ⟨(enc idW t).dropLast, (enc idW t).getLast (by rw [e]; simp), (List.dropLast_concat_getLast _).symm⟩)
  have HLN : Hid (FitP t → (enc idW t).length ≤ 330000) := Lib.hid (fun hf => by
    have := hf.fit.len
    rw [pieceOf_eq, List.length_append] at this
    omega)
  have HQ := Lib.hid (fun (hf : FitP t) (e0 : List UInt8) (x : UInt8) (hx : enc idW t = e0 ++ [x]) (h46 : ¬ d.toNat = 46) (hup : ¬ (65 ≤ d.toNat ∧ d.toNat ≤ 90)) (h0 : ¬ (x.toNat = 48 ∧ (d.toNat = 95 ∨ (48 ≤ d.toNat ∧ d.toNat ≤ 57)))) w' (h : Sta w P w') => h.call fP (Q := fun e => e = .returned (.bool true)) (refused_any (95 :: 82 :: (e0 ++ [x, d])) (by have := hf.more d (fun e => h46 (by rw [e]; rfl)) hup (fun e => by rw [hx] at e; simp at e; exact fun hd => h0 ⟨by rw [e]; rfl, hd⟩); rw [hx] at this; simpa using this) w'.heap.size w' h.tabs (Nat.le_refl _) (hE.step h.below)))
  have HAL := Lib.hid (fun w' (h : Sta w P w') (o : Obj) => h.step fP ((Below.refl _ _).alloc (Nat.le_refl _) o))
  clear hS hC hR fP ht hB hT hM hE
  go_enter Tryz.func14, Tryz.ntmps14
  go_wp2_with fail
  refine (HZ.out _ S0.out).mono ?_
  rintro e w1 ⟨bl, rfl, h1⟩
  obtain ⟨a0, a1, a2, a3, a4, a5⟩ := CL.out _ h1
  have S1 := Lib.hid h1
  clear h1
  cases bl with
  | false =>
    go_wp2
    go_ret
    exact ⟨rfl, S1.out.below⟩
  | true =>
    go_wp2_with fail
    refine (HF.out _ S1.out).mono ?_
    rintro e w2 ⟨bl, rfl, hq, h2⟩
    obtain ⟨a0, a1, a2, a3, a4, a5⟩ := CL.out _ h2
    have S2 := Lib.hid h2
    clear h2
    cases bl with
    | false =>
      clear hq
      go_wp2
      go_ret
      exact ⟨rfl, S2.out.below⟩
    | true =>
      have FP := Lib.hid (hq rfl)
      clear hq
      by_cases hc46 : d.toNat = 46
      · have hd : ((d.toNat : Int) == 46) = true := by rw [hc46]; decide
        go_wp2
        go_ret
        exact ⟨rfl, S2.out.below⟩
      have hd46 : ((d.toNat : Int) == 46) = false := by rw [beq_eq_false_iff_ne]; omega
      by_cases hc36 : d.toNat = 36
      · have hd : ((d.toNat : Int) == 36) = true := by rw [hc36]; decide
        go_wp2
        go_ret
        exact ⟨rfl, S2.out.below⟩
      have hd36 : ((d.toNat : Int) == 36) = false := by rw [beq_eq_false_iff_ne]; omega
      by_cases hup : 65 ≤ d.toNat ∧ d.toNat ≤ 90
      · have hd1 : decide ((65 : Int) ≤ (d.toNat : Int)) = true := by simp; omega
        have hd2 : decide ((d.toNat : Int) ≤ 90) = true := by simp; omega
        go_wp2
        go_ret
        exact ⟨rfl, S2.out.below⟩
      by_cases hlo : 65 ≤ d.toNat
      · have hd1 : decide ((65 : Int) ≤ (d.toNat : Int)) = true := by simp; omega
        have hd2 : decide ((d.toNat : Int) ≤ 90) = false := by simp; omega
        obtain ⟨e0, x, hx⟩ := HEX.out FP.out
        have hln := HLN.out FP.out
        rw [hx] at hln
        simp only [List.length_append, List.length_cons, List.length_nil] at hln
        go_wp2_with fail
        refine (HN.out FP.out e0 x hx _ S2.out).mono ?_
        rintro e w3 ⟨rfl, h3⟩
        obtain ⟨a0, a1, a2, a3, a4, a5⟩ := CL.out _ h3
        have S3 := Lib.hid h3
        clear h3
        have ei : ∀ h, (95 :: 82 :: (e0 ++ [x]))[e0.length + 2]'h = x := by intro h; simp
        have q := conv1 w3 d d.toNat rfl
        have eq1 : bs (95 :: 82 :: (e0 ++ [x])) ++ bs [d] = bs (95 :: 82 :: (e0 ++ [x, d])) := by rw [bs_append]; simp
        have SA := Lib.hid (HAL.out _ S3.out (.cells #[.int .u8 d.toNat] 5))
        by_cases hx1 : x.toNat = 48
        · have hx48 : ((x.toNat : Int) == 48) = true := by rw [beq_iff_eq]; omega
          by_cases hd1x : d.toNat = 95
          · have hd95 : ((d.toNat : Int) == 95) = true := by rw [beq_iff_eq]; omega
            go_wp2 <;> (go_ret; exact ⟨rfl, S3.out.below⟩)
          · have hd95 : ((d.toNat : Int) == 95) = false := by rw [beq_eq_false_iff_ne]; omega
            by_cases hd2x : 48 ≤ d.toNat
            · have hd3 : decide ((48 : Int) ≤ (d.toNat : Int)) = true := by simp; omega
              by_cases hd4x : d.toNat ≤ 57
              · have hd5 : decide ((d.toNat : Int) ≤ 57) = true := by simp; omega
                go_wp2 <;> (go_ret; exact ⟨rfl, S3.out.below⟩)
              · have hd5 : decide ((d.toNat : Int) ≤ 57) = false := by simp; omega
                (go_wp2_with fail) <;> (refine (HQ.out FP.out e0 x hx hc46 hup (by omega) _ SA.out).mono ?_; rintro e w9 ⟨rfl, h9⟩; go_wp2; go_ret; exact ⟨rfl, h9.below⟩)
            · have hd3 : decide ((48 : Int) ≤ (d.toNat : Int)) = false := by simp; omega
              (go_wp2_with fail) <;> (refine (HQ.out FP.out e0 x hx hc46 hup (by omega) _ SA.out).mono ?_; rintro e w9 ⟨rfl, h9⟩; go_wp2; go_ret; exact ⟨rfl, h9.below⟩)
        · have hx48 : ((x.toNat : Int) == 48) = false := by rw [beq_eq_false_iff_ne]; omega
          (go_wp2_with fail) <;> (refine (HQ.out FP.out e0 x hx hc46 hup (by omega) _ SA.out).mono ?_; rintro e w9 ⟨rfl, h9⟩; go_wp2; go_ret; exact ⟨rfl, h9.below⟩)
      · have hd1 : decide ((65 : Int) ≤ (d.toNat : Int)) = false := by simp; omega
        obtain ⟨e0, x, hx⟩ := HEX.out FP.out
        have hln := HLN.out FP.out
        rw [hx] at hln
        simp only [List.length_append, List.length_cons, List.length_nil] at hln
        go_wp2_with fail
        refine (HN.out FP.out e0 x hx _ S2.out).mono ?_
        rintro e w3 ⟨rfl, h3⟩
        obtain ⟨a0, a1, a2, a3, a4, a5⟩ := CL.out _ h3
        have S3 := Lib.hid h3
        clear h3
        have ei : ∀ h, (95 :: 82 :: (e0 ++ [x]))[e0.length + 2]'h = x := by intro h; simp
        have q := conv1 w3 d d.toNat rfl
        have eq1 : bs (95 :: 82 :: (e0 ++ [x])) ++ bs [d] = bs (95 :: 82 :: (e0 ++ [x, d])) := by rw [bs_append]; simp
        have SA := Lib.hid (HAL.out _ S3.out (.cells #[.int .u8 d.toNat] 5))
        by_cases hx1 : x.toNat = 48
        · have hx48 : ((x.toNat : Int) == 48) = true := by rw [beq_iff_eq]; omega
          by_cases hd1x : d.toNat = 95
          · have hd95 : ((d.toNat : Int) == 95) = true := by rw [beq_iff_eq]; omega
            go_wp2 <;> (go_ret; exact ⟨rfl, S3.out.below⟩)
          · have hd95 : ((d.toNat : Int) == 95) = false := by rw [beq_eq_false_iff_ne]; omega
            by_cases hd2x : 48 ≤ d.toNat
            · have hd3 : decide ((48 : Int) ≤ (d.toNat : Int)) = true := by simp; omega
              by_cases hd4x : d.toNat ≤ 57
              · have hd5 : decide ((d.toNat : Int) ≤ 57) = true := by simp; omega
                go_wp2 <;> (go_ret; exact ⟨rfl, S3.out.below⟩)
              · have hd5 : decide ((d.toNat : Int) ≤ 57) = false := by simp; omega
                (go_wp2_with fail) <;> (refine (HQ.out FP.out e0 x hx hc46 hup (by omega) _ SA.out).mono ?_; rintro e w9 ⟨rfl, h9⟩; go_wp2; go_ret; exact ⟨rfl, h9.below⟩)
            · have hd3 : decide ((48 : Int) ≤ (d.toNat : Int)) = false := by simp; omega
              (go_wp2_with fail) <;> (refine (HQ.out FP.out e0 x hx hc46 hup (by omega) _ SA.out).mono ?_; rintro e w9 ⟨rfl, h9⟩; go_wp2; go_ret; exact ⟨rfl, h9.below⟩)
        · have hx48 : ((x.toNat : Int) == 48) = false := by rw [beq_eq_false_iff_ne]; omega
          (go_wp2_with fail) <;> (refine (HQ.out FP.out e0 x hx hc46 hup (by omega) _ SA.out).mono ?_; rintro e w9 ⟨rfl, h9⟩; go_wp2; go_ret; exact ⟨rfl, h9.below⟩)
end Go.Proofs.YtaeiclgdhchneaaGreatDoor

/- What the rows' lists give of the variable of the one other error. -/
namespace Go.Proofs.YtaeiclgdhchneaaGreatDoor
open Go.RowKit

theorem errG : Tryz.prog.globalNamed "loop.example/pub-g01453/pub/rustdemangle.ErrNotMangledName" = some gErr := by kernel_rfl
theorem errGT : (Tryz.prog.globals[gErr]?).map (·.type) = some 65 := by kernel_rfl
theorem errNe : (Tryz.prog.typeName? 3 tDE == some "*errors.errorString") = false := by kernel_rfl
theorem err_of {W : World} (h : laidMet Tryz.prog laidL W) : ErrAt W := by
  obtain ⟨g, t, cs, fuel, p, hg, ht, hv, hd⟩ := Lib.laidMet.reads h (show ("loop.example/pub-g01453/pub/rustdemangle.ErrNotMangledName", Rows.laid_loop_example_pub_g01453_pub_rustdemangle_ErrNotMangledName) ∈ laidL by simp [laidL])
  obtain rfl := Option.some.inj (errG.symm.trans hg)
  obtain rfl := Option.some.inj (errGT.symm.trans ht)
  obtain ⟨_, u, v, hcs, hn, _⟩ := iface_of_trod Tryz.underlying65 hd
  refine ⟨u, v, ?_, ?_, ?_⟩
  · intro e
    subst e
    have := errNe
    rw [hn] at this
    exact absurd this (by decide)
  · have := World.var?_cell errG hv 0
    have h0 : cs[0]? = some (.iface u v) := by rw [← Array.getElem?_toList, hcs]; rfl
    rw [h0] at this
    simpa using this
  · have := World.var?_cell errG hv 0
    have h0 : cs[0]? = some (.iface u v) := by rw [← Array.getElem?_toList, hcs]; rfl
    rw [h0] at this
    exact cell_lt this
end Go.Proofs.YtaeiclgdhchneaaGreatDoor

