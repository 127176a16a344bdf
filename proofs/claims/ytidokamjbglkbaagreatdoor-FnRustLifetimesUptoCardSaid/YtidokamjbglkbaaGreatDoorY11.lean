/- genericArgs: one argument behind the other. -/
import Derived.Test.YtidokamjbglkbaaGreatDoorY10
import Derived.Test.YtidokamjbglkbaaGreatDoorY03
import Derived.Lib.SlicesS
import Derived.Lib.LastIndexByte
import Derived.Laws.Cover4
import Derived.Test.YtidokamjbglkbaaGreatDoorShelf
import Derived.Deep.QuietTactic
import Derived.Lib.BufferRead
namespace Go.Proofs.YtidokamjbglkbaaGreatDoor
open Go.RowKit

/-- Parts one behind the other, up to an E. -/
inductive Run (f : FuncId) (lb : Nat) (sk : Bool) : List UInt8 → List UInt8 → List (List UInt8) → Prop
  | nil (k : List UInt8) : Run f lb sk (69 :: k) (69 :: k) []
  | cons (c : UInt8) (l k1 k t : List UInt8) (ts : List (List UInt8)) (hc : c.toNat ≠ 69) (h : Says f #[] lb sk (c :: l) k1 t T0) (r : Run f lb sk k1 k ts) : Run f lb sk (c :: l) k (t :: ts)

set_option maxHeartbeats 4000000 in
set_option maxRecDepth 100000 in
theorem genericArgs_any (lb : Nat) (sk : Bool) (inp k txt : List UInt8) (ts : List (List UInt8)) (h : Run 111 lb sk inp (69 :: k) ts) (htxt : txt = joined [44, 32] ts) :
    Says 88 #[] lb sk inp (69 :: k) txt T0 := by
  intro B b r w hr hsk hlb hi ho
  have c8 : w.cell? ⟨b, 8, none⟩ = some (.bool false) := by obtain ⟨ad, buf, h'⟩ := hr; exact h'.c8
  have hlt := hr.lt
  have A := At.start (hr.alloc (.cells #[.pointer (some ⟨b, 0, none⟩)] 82))
  have B0 := Box.new w 82 (.pointer (some ⟨b, 0, none⟩))
  rw [hi] at A
  have HI := Lib.hid hi
  have HSK := Lib.hid hsk
  have HLB := Lib.hid hlb
  have HO := Lib.hid ho
  have HT := Lib.hid htxt
  have HR := Lib.hid h
  clear hi hsk hlb htxt ho h
  go_enter Tryz.func88, Tryz.ntmps88
  go_wp2_with fail
  go_loopg [3] (ts.length + 1) (fun n f wr => ∃ (first : Bool) (inp' txt' : List UInt8) (ts' : List (List UInt8)), n = ts'.length + 1 ∧ f = .bool first ∧ Run 111 lb sk inp' (69 :: k) ts' ∧
    txt = txt' ++ (if first then joined [44, 32] ts' else tailText [44, 32] ts') ∧ At B b r (w.alloc (.cells #[.pointer (some ⟨b, 0, none⟩)] 82)) inp' txt' T0 wr)
  case atStart => exact ⟨true, inp, [], ts, rfl, rfl, HR.out, HT.out, A.mono fun _ _ => trivial⟩
  case round =>
    obtain ⟨first, inp', txt', ts', rfl, rfl, hrun, htx, A⟩ := hrel
    clear c8 hlt
    cases hrun with
    | nil =>
      have cB0 := A.box B0 (by decide)
      have Ac1 := A.c1
      have Aln := A.len.2
      simp only [List.length_cons] at Aln
      have HTX := Lib.hid htx
      clear htx
      go_wp2_with fail
      go_end0
      exact (A.to rfl (by rw [HTX.out]; cases first <;> simp [joined, tailText])).post HI.out ((Kept.refl B w).alloc _)
    | cons c l k1 _ t ts2 hc hs hrun =>
      have cB0 := A.box B0 (by decide)
      have Ac1 := A.c1
      have Aln := A.len.2
      simp only [List.length_cons] at Aln
      have hc' : ((c.toNat : Int) != 69) = true := by simp; omega
      have HTX := Lib.hid htx
      have HRUN := Lib.hid hrun
      clear htx hc hrun
      cases first with
      | true =>
        go_wp2_with fail
        refine (A.says hs HSK.out HLB.out ?_).mono ?_
        · intro hs0; have a := HO.out hs0; rw [HTX.out] at a; simp [joined] at a ⊢; omega
        rintro e w1 ⟨rfl, A'⟩
        go_wp2_with fail
        go_roundg (ts2.length + 1)
        case measure => simp
        case rel => exact ⟨false, k1, txt' ++ t, ts2, rfl, rfl, HRUN.out, by rw [HTX.out]; simp [joined], A'⟩
      | false =>
        go_wp2_with fail
        refine (A.ws [44, 32] (by simp) ?_).mono ?_
        · intro hs0; have a := HO.out hs0; rw [HTX.out] at a; simp [tailText] at a ⊢; omega
        rintro e w1 ⟨rfl, A'⟩
        clear cB0 Ac1
        have cB0 := A'.box B0 (by decide)
        go_wp2_with fail
        refine (A'.says hs HSK.out HLB.out ?_).mono ?_
        · intro hs0; have a := HO.out hs0; rw [HTX.out] at a; simp [tailText] at a ⊢; omega
        rintro e w2 ⟨rfl, A''⟩
        go_wp2_with fail
        go_roundg (ts2.length + 1)
        case measure => simp
        case rel => exact ⟨false, k1, txt' ++ [44, 32] ++ t, ts2, rfl, rfl, HRUN.out, by rw [HTX.out]; simp [tailText], A''⟩
end Go.Proofs.YtidokamjbglkbaaGreatDoor

/- Generic arguments of the crate m, read as a whole name. -/
namespace Go.Proofs.YtidokamjbglkbaaGreatDoor
open Go.RowKit

theorem path_m (lb : Nat) (sk : Bool) (k : List UInt8) : Says 74 #[.bool true] lb sk (67 :: 49 :: 109 :: k) k [109] NS := by
  have hu : Undis ([49] ++ ([] ++ (109 :: k))) ((109 :: k).drop 1) ((109 :: k).take 1) false := by
    refine undis_mk 1 [49] [] (109 :: k) (by simp) ?_ (by decide) ?_ (by simp) (by decide) (.inr ⟨rfl, ?_, ?_⟩)
    · intro c hc; simp at hc; subst hc; decide
    · intro j hj hj2
      obtain rfl : j = 0 := by omega
      exact .inr (.inr (.inl (by show 97 ≤ (109 : UInt8).toNat ∧ (109 : UInt8).toNat ≤ 122; decide)))
    · intro c hc; simp at hc; subst hc; decide
    · intro c hc; simp at hc; subst hc; decide
  have hn : Names (49 :: 109 :: k) k 0 [109] := by
    have := names_mk 0 _ _ _ _ hu (by decide) ⟨49, 109 :: k, rfl, by decide⟩
    simpa [dis] using this
  exact path_C true lb sk (49 :: 109 :: k) k [109] [109] 0 hn (by simp) (by decide) rfl

/-- The name of the crate m with generic arguments, spelled. -/
def nameOf (p : List UInt8) : List UInt8 := 95 :: 82 :: 73 :: 67 :: 49 :: 109 :: (p ++ [69])
/-- What is told of it. -/
def toldOf (t : List UInt8) : List UInt8 := [109, 58, 58, 60] ++ (t ++ [62])

theorem read_args (p txt : List UInt8) (ts : List (List UInt8)) (h : Run 111 0 false (p ++ [69]) [69] ts) (htxt : txt = joined [44, 32] ts) (hp : ∀ x ∈ p, x ≠ 46) (hl : p.length ≤ 10000000) (hl2 : txt.length ≤ 100000000) :
    ReadAs (nameOf p) (toldOf txt) := by
  intro B w hT hB
  refine toString_any 73 (67 :: 49 :: 109 :: (p ++ [69])) (toldOf txt) NS ?_ (by decide) ?_ (by simp; omega) (by simp [toldOf]) (by simp [toldOf]; omega) B w hT hB
  · refine path_I_true 0 false (67 :: 49 :: 109 :: (p ++ [69])) (p ++ [69]) [] [109] txt _ NS T0 (path_m 0 false (p ++ [69])) (genericArgs_any 0 false (p ++ [69]) [] txt ts h htxt) ?_
    simp [toldOf]
  · intro x hx
    simp only [List.mem_cons, List.mem_append, List.not_mem_nil, or_false] at hx
    rcases hx with rfl | rfl | rfl | rfl | rfl | rfl | hx | rfl
    all_goals first
      | decide
      | exact hp x hx
end Go.Proofs.YtidokamjbglkbaaGreatDoor

/- laws: rustOf, rustArgumentIs, rustArgument. -/
namespace Go.Proofs.YtidokamjbglkbaaGreatDoor
open Go.RowKit

set_option maxHeartbeats 1000000 in
set_option maxRecDepth 100000 in
theorem rustOf_any (p : List UInt8) (hl : p.length ≤ 10000000) (w : World) : Calls Tryz.prog 18 #[.string (bs p)] w fun e w' => e = .returned (.string (bs (nameOf p))) ∧ w' = w := by
  have e1 : (⟨#[95, 82, 73, 67, 49, 109]⟩ : ByteArray) ++ bs p = bs ([95, 82, 73, 67, 49, 109] ++ p) := by rw [← bs_append]; rfl
  have e2 : bs (95 :: 82 :: 73 :: 67 :: 49 :: 109 :: p) ++ (⟨#[69]⟩ : ByteArray) = bs (nameOf p) := by
    show bs ([95, 82, 73, 67, 49, 109] ++ p) ++ (⟨#[69]⟩ : ByteArray) = _
    rw [show (⟨#[69]⟩ : ByteArray) = bs [69] from rfl, bs_append]; rfl
  have h1 : ¬ 9223372036854775807 < 6 + p.length := by omega
  have h2 : ¬ 9223372036854775807 < p.length + 6 + 1 := by omega
  go_enter Tryz.func18, Tryz.ntmps18
  go_wp2
  go_ret
  exact ⟨congrArg (fun b => Ending.returned (.string b)) e2, rfl⟩

set_option maxHeartbeats 2000000 in
set_option maxRecDepth 100000 in
/-- An argument that is told as a text is told as it. -/
theorem argumentIs_any (p txt : List UInt8) (hl : p.length ≤ 10000000) (hl2 : txt.length ≤ 100000000) (h : ReadAs (nameOf p) (toldOf txt)) (B : Nat) (w : World) (hT : Tabs B w) (hB : B ≤ w.heap.size) :
    Calls Tryz.prog 13 #[.string (bs p), .string (bs txt)] w fun e w' => e = .returned (.bool true) ∧ Below w.heap.size w w' := by
  have HO := Lib.hid (fun w => rustOf_any p hl w)
  have HD := Lib.hid (told_any _ _ h B w hT hB)
  have e1 : (⟨#[109, 58, 58, 60]⟩ : ByteArray) ++ bs txt = bs (109 :: 58 :: 58 :: 60 :: txt) := by rw [show (⟨#[109, 58, 58, 60]⟩ : ByteArray) = bs [109, 58, 58, 60] from rfl, bs_append]; rfl
  have e2 : bs (109 :: 58 :: 58 :: 60 :: txt) ++ (⟨#[62]⟩ : ByteArray) = bs (toldOf txt) := by
    rw [show (⟨#[62]⟩ : ByteArray) = bs [62] from rfl, bs_append]; rfl
  have h1 : ¬ 9223372036854775807 < 4 + txt.length := by omega
  clear h hT hB
  go_enter Tryz.func13, Tryz.ntmps13
  go_wp2_with (first
    | (go_at_call 18; refine (HO.out _).mono ?_; rintro e w' ⟨rfl, rfl⟩)
    | (go_at_call 22; refine HD.out.mono ?_))
  rintro e w1 ⟨rfl, b1⟩
  go_wp2
  go_ret
  refine ⟨?_, b1⟩
  first | rfl | simp

set_option maxHeartbeats 2000000 in
set_option maxRecDepth 100000 in
/-- An argument, told by itself. -/
theorem argument_any (p txt : List UInt8) (hl : p.length ≤ 10000000) (hl2 : txt.length ≤ 100000000) (h : ReadAs (nameOf p) (toldOf txt)) (B : Nat) (w : World) (hT : Tabs B w) (hB : B ≤ w.heap.size) :
    Calls Tryz.prog 11 #[.string (bs p)] w fun e w' => e = .returned (.tuple #[.string (bs txt), .bool true]) ∧ Below w.heap.size w w' := by
  have HO := Lib.hid (fun w => rustOf_any p hl w)
  have HD := Lib.hid (told_any _ _ h B w hT hB)
  have hln : (toldOf txt).length = txt.length + 5 := by simp [toldOf]
  have e1 : (bs (toldOf txt)).extract 0 4 = ⟨#[109, 58, 58, 60]⟩ := by rw [bs_take]; rfl
  have e2 : (bs (toldOf txt)).extract 4 (txt.length + 5 - 1) = bs txt := by
    rw [bs_extract, show txt.length + 5 - 1 - 4 = txt.length by omega]
    simp [toldOf]
  have e3 : ((((toldOf txt)[txt.length + 4]'(by rw [hln]; omega)).toNat : Int) != 62) = false := by
    have : (toldOf txt)[txt.length + 4]'(by rw [hln]; omega) = 62 := by simp [toldOf]
    rw [this]; decide
  have e4 : decide ((txt.length : Int) + 5 < 5) = false := by simp; omega
  have E2 := Lib.hid e2
  clear e2
  clear h hT hB
  go_enter Tryz.func11, Tryz.ntmps11
  go_wp2_with (first
    | (go_at_call 18; refine (HO.out _).mono ?_; rintro e w' ⟨rfl, rfl⟩)
    | (go_at_call 22; refine HD.out.mono ?_))
  rintro e w1 ⟨rfl, b1⟩
  go_wp2
  go_ret2
  refine ⟨?_, b1⟩
  rw [E2.out]
  rfl
end Go.Proofs.YtidokamjbglkbaaGreatDoor

/- Punycode: the reader's own steps, in plain numbers. -/
namespace Go.Proofs.YtidokamjbglkbaaGreatDoor

theorem Pun.len {i n bias : Nat} {out fin : List Nat} {e : List UInt8} (h : Pun i n bias out e fin) : out.length ≤ fin.length := by
  induction h with
  | done => exact Nat.le_refl _
  | step i n bias delta q r out rest fin hd hq hr hs hb h ih => rw [insAt_len _ _ _ hr] at ih; omega
theorem adaptK_ge : ∀ (d k : Nat), k ≤ adaptK d k := by
  intro d
  induction d using Nat.strongRecOn with
  | _ d ih =>
    intro k
    rw [adaptK]
    split
    · exact Nat.le_trans (Nat.le_add_right _ _) (ih _ (by omega) _)
    · exact Nat.le_add_right _ _

/-- Where the reader stands within the digits of a delta: ii has been summed up, wt is the weight at the place p, dl is left. -/
structure Inn (bias i delta ii wt p dl : Nat) : Prop where
  sum : ii + wt * dl = i + delta
  ge : i ≤ ii
  one : thr p bias = 1 → wt = 35 ^ (p - 1)
  p1 : 1 ≤ p
  w1 : 1 ≤ wt

theorem Inn.start (bias i delta : Nat) : Inn bias i delta i 1 1 delta := ⟨by simp, Nat.le_refl _, fun _ => rfl, Nat.le_refl _, Nat.le_refl _⟩
theorem Inn.left {bias i delta ii wt p dl : Nat} (h : Inn bias i delta ii wt p dl) : wt * dl ≤ delta := by have := h.sum; have := h.ge; omega
theorem Inn.last {bias i delta ii wt p dl : Nat} (h : Inn bias i delta ii wt p dl) : ii + dl * wt = i + delta := by rw [Nat.mul_comm dl]; exact h.sum
theorem Inn.next {bias i delta ii wt p dl : Nat} (h : Inn bias i delta ii wt p dl) (hd : delta ≤ 68000000) (ht : ¬ dl < thr p bias) :
    (thr p bias + (dl - thr p bias) % (36 - thr p bias)) * wt ≤ 68000000 ∧ wt < 59652323 ∧
      Inn bias i delta (ii + (thr p bias + (dl - thr p bias) % (36 - thr p bias)) * wt) (wt * (36 - thr p bias)) (p + 1) ((dl - thr p bias) / (36 - thr p bias)) := by
  obtain ⟨t, hteq⟩ : ∃ t, t = thr p bias := ⟨_, rfl⟩
  have ht1 := thr_ge p bias
  have ht2 := thr_le p bias
  have hone := h.one
  have hmono := thr_mono p bias
  have hge2 := thr_ge (p + 1) bias
  have hw := fun d => @weight_ok wt p bias d
  rw [← hteq] at ht ht1 ht2 hone hmono hw ⊢
  have hdm := Nat.div_add_mod (dl - t) (36 - t)
  obtain ⟨a, ha⟩ : ∃ a, a = (dl - t) / (36 - t) := ⟨_, rfl⟩
  obtain ⟨m, hm⟩ : ∃ m, m = (dl - t) % (36 - t) := ⟨_, rfl⟩
  rw [← ha, ← hm] at hdm ⊢
  have e1 : dl = (t + m) + (36 - t) * a := by omega
  have hl := h.left
  have hmul : wt * dl = (t + m) * wt + (wt * (36 - t)) * a := by
    rw [e1, Nat.mul_add, Nat.mul_comm wt (t + m), Nat.mul_assoc]
  have hle : (t + m) * wt ≤ 68000000 := by omega
  refine ⟨hle, hw (t + m) (by rw [Nat.mul_comm]; exact hle) (by omega) hone, ?_, ?_, ?_, by omega, ?_⟩
  · have := h.sum
    rw [Nat.add_assoc, ← hmul]; exact this
  · have := h.ge; omega
  · intro h1
    have t1 : t = 1 := by omega
    rw [hone t1, t1, Nat.add_sub_cancel]
    obtain ⟨p', rfl⟩ : ∃ p', p = p' + 1 := ⟨p - 1, by have := h.p1; omega⟩
    rw [Nat.add_sub_cancel, Nat.pow_succ]
  · exact Nat.mul_pos h.w1 (by omega)

theorem last_none (e : List UInt8) (h : ∀ c ∈ e, c.toNat ≠ 95) : Lib.lastIndexByte ⟨e.toArray⟩ 95 = -1 := by
  unfold Lib.lastIndexByte
  rcases Lib.lastIdx_spec ⟨e.toArray⟩ 95 (⟨e.toArray⟩ : ByteArray).size with ⟨h1, _⟩ | ⟨i, hi, h1, h2, _⟩
  · exact h1
  · exfalso
    have hi' : i < e.length := by simpa [ByteArray.size] using hi
    have := h e[i] (List.getElem_mem hi')
    simp [hi'] at h2
    omega
theorem last_some (p e : List UInt8) (h : ∀ c ∈ e, c.toNat ≠ 95) : Lib.lastIndexByte ⟨(p ++ 95 :: e).toArray⟩ 95 = p.length := by
  unfold Lib.lastIndexByte
  have hsz : (⟨(p ++ 95 :: e).toArray⟩ : ByteArray).size = p.length + (e.length + 1) := by simp [ByteArray.size]
  rcases Lib.lastIdx_spec ⟨(p ++ 95 :: e).toArray⟩ 95 (⟨(p ++ 95 :: e).toArray⟩ : ByteArray).size with ⟨_, h2⟩ | ⟨i, hi, h1, h2, h3⟩
  · exfalso
    have := h2 p.length (by rw [hsz]; omega)
    simp at this
  · rw [h1]
    rw [hsz] at hi h3
    rcases Nat.lt_trichotomy i p.length with hlt | heq | hgt
    · exfalso
      have := h3 p.length hlt (by omega)
      simp at this
    · rw [heq]
    · exfalso
      obtain ⟨j, rfl⟩ : ∃ j, i = p.length + 1 + j := ⟨i - p.length - 1, by omega⟩
      have hj : j < e.length := by omega
      have := h e[j] (List.getElem_mem hj)
      have hx : (p ++ 95 :: e)[p.length + 1 + j]! = e[j] := by
        rw [getElem!_pos _ _ (by simp; omega), List.getElem_append_right (by omega)]
        simp [show p.length + 1 + j - p.length = j + 1 by omega]
      simp [hx] at h2
      omega
theorem letter_ne (c : UInt8) (h : ∃ d, d < 36 ∧ c = letter d) : c.toNat ≠ 95 := by
  obtain ⟨d, hd, rfl⟩ := h
  exact (letter_id d hd).2
set_option maxRecDepth 100000 in
theorem runes_fold (l : List Nat) : ∀ r : ByteArray, ((l.map fun c : Nat => (c : Int)).foldl (fun r n => r ++ Utf8.encode n) r).data.toList = r.data.toList ++ l.flatMap enc8 := by
  induction l with
  | nil => intro r; rw [List.map_nil, List.foldl_nil, List.flatMap_nil, List.append_nil]
  | cons c l ih =>
    intro r
    rw [List.map_cons, List.foldl_cons, ih, ByteArray.data_append, Array.toList_append, List.flatMap_cons, List.append_assoc]
    unfold enc8
    exact Eq.refl _
theorem runes_text (l : List Nat) : runesBytes (l.map fun c : Nat => (c : Int)) = ⟨(l.flatMap enc8).toArray⟩ := by
  have h := runes_fold l ByteArray.empty
  have e0 : ByteArray.empty.data.toList = [] := rfl
  rw [e0, List.nil_append] at h
  unfold runesBytes
  revert h
  generalize (l.map fun c : Nat => (c : Int)).foldl (fun r n => r ++ Utf8.encode n) ByteArray.empty = x
  intro h
  cases x with
  | mk d => rw [← h]
end Go.Proofs.YtidokamjbglkbaaGreatDoor

/- strconv.FormatUint at base 10. -/
namespace Go.Proofs.YtidokamjbglkbaaGreatDoor
open Go.RowKit Go.Sort Go.Lib

theorem grow_heap (w : World) (os : Array Obj) (k n : Nat) (h : k < w.heap.size) : (grow (w.drewN n) os).heap[k]? = w.heap[k]? := by
  show (w.heap ++ os)[k]? = _
  rw [Array.getElem?_append_left h]

theorem kept_grow {B : Nat} (w : World) (n : Nat) (os : Array Obj) : Kept B w (grow (w.drewN n) os) :=
  ⟨rfl, rfl, rfl, by show _ ≤ (w.heap ++ os).size; simp, fun k hk _ => grow_heap w os k n hk⟩

theorem At.grow {B b : Nat} {r0 : RS} {w0 w : World} {k txt : List UInt8} {G : Nat → Prop} (h : At B b r0 w0 k txt G w) (n : Nat) (os : Array Obj) : At B b r0 w0 k txt G (Go.Sort.grow (w.drewN n) os) := by
  obtain ⟨o, l, h1, h2, ⟨ad, buf, h3⟩, h4⟩ := h
  refine ⟨o, l, h1, h2, ⟨ad, buf, ?_⟩, h4.trans (kept_grow w n os)⟩
  have hs : w.heap.size ≤ (Go.Sort.grow (w.drewN n) os).heap.size := (kept_grow (B := B) w n os).size
  refine ⟨h3.hB, by have := h3.hw; omega, h3.len, h3.tab.same (fun k hk => grow_heap w os k n (by have := h3.hw; omega)), (grow_heap w os b n h3.rst.lt).trans h3.heap, h3.addr, ?_⟩
  obtain ⟨h5, h6⟩ := h3.own
  refine ⟨h5, ?_⟩
  rcases h6 with h6 | ⟨g, cap, cur, hv, hg, hh, hr⟩
  · exact .inl h6
  · exact .inr ⟨g, cap, cur, hv, hg, (grow_heap w os g n (Array.getElem?_eq_some_iff.1 hh).1).trans hh, hr⟩

set_option maxHeartbeats 6400000 in
set_option maxRecDepth 100000 in
theorem formatUint_any (u : Nat) (hu64 : u < 18446744073709551616) (w : World) (htab : Lib.TabIs Tryz.prog w "internal/strconv.uint64pow10" .u64 Lib.pow10Tab) :
    Calls Tryz.prog 129 #[.int .u64 u, .int .i64 10] w fun e w' => e = .returned (.string (bs (decDigits u))) ∧ ∃ k os, w' = grow (w.drewN k) os := by
  by_cases hs : u < 100
  · go_enter Tryz.func129, Tryz.ntmps129
    go_wp2_with fail
    refine (Tryz.internal_strconv_small u hs _).mono ?_
    rintro e w' ⟨rfl, rfl⟩
    go_wp2_with fail
    go_ret
    exact ⟨rfl, 0, #[], by simp [World.drewN_zero]⟩
  · have hu1 : 1 ≤ u := by omega
    have hnd20 : Lib.nDigits u ≤ 20 := by have := Lib.numDigits_eq u hu1 hu64; split at this <;> omega
    have hal : Tryz.prog.arrayLen 130 = 24 := by kernel_rfl
    have hel : Tryz.prog.elem 130 = tB := by kernel_rfl
    have hsl2 : ∀ W, (Instr.sliceAt 130 (.pointer (some ⟨w.heap.size, 0, none⟩)) none (some (.int .i64 (Lib.nDigits u : Int))) none).run Tryz.prog W = .ok (.slice (some ⟨w.heap.size, 0, none⟩) (Lib.nDigits u) 24) W := fun W => by
      rw [run_sliceAt_array_h W 130 ⟨w.heap.size, 0, none⟩ (by simp [Program.arrayLen, Program.elem, Tryz.underlying130]) .i64 (Lib.nDigits u : Int) (by omega) (by rw [hal]; omega)]
      go_simp
    have hH0 : Holds (fun (b : UInt8) => Value.int .u8 (b.toNat : Int)) (w.alloc (.cells Lib.zeros24 130)) w.heap.size 0 (Array.replicate (Lib.nDigits u) (0 : UInt8)) := fun j hj => by
      have hj' : j < Lib.nDigits u := by simpa using hj
      refine ⟨?_, World.frozen?_alloc_new _ _ _ _⟩
      rw [World.cell?_alloc_new, Lib.zeros24_at _ (by omega), getElem!_pos _ j hj]
      simp
    have hfmt := Tryz.internal_strconv_formatBase10 w.heap.size 0 24 u (Array.replicate (Lib.nDigits u) 0) (w.alloc (.cells Lib.zeros24 130)) hH0 (by rw [Array.size_replicate]; exact Lib.lt_pow_nDigits u) hu64 (by rw [Array.size_replicate]; omega)
    rw [Array.size_replicate] at hfmt
    have HH0 := Lib.hid hH0
    clear hH0 hal hel
    go_enter Tryz.func129, Tryz.ntmps129
    go_wp2_with fail
    refine (Tryz.internal_strconv_numDigits u hu1 hu64 _ (Lib.tabIs_alloc htab _)).mono ?_
    rintro e w' ⟨rfl, rfl⟩
    go_wp2_with fail
    refine hfmt.mono ?_
    rintro e w' ⟨rfl, k, v', dk, rfl, hF⟩
    have hcv : (convert 39 9 (.slice (some ⟨w.heap.size, 0, none⟩) (Lib.nDigits u) 24)).run Tryz.prog ((putRow (fun (b : UInt8) => Value.int .u8 (b.toNat : Int)) (w.alloc (.cells Lib.zeros24 130)) w.heap.size 0 dk).drewN k) = .ok (.string ⟨(Lib.decDigits u).toArray⟩) ((putRow (fun (b : UInt8) => Value.int .u8 (b.toNat : Int)) (w.alloc (.cells Lib.zeros24 130)) w.heap.size 0 dk).drewN k) := by
      have h := run_convert_bytes_back (P := Tryz.prog) ((putRow (fun (b : UInt8) => Value.int .u8 (b.toNat : Int)) (w.alloc (.cells Lib.zeros24 130)) w.heap.size 0 dk).drewN k) 39 9 tB ⟨w.heap.size, 0, none⟩ 24 (Lib.decDigits u) Tryz.underlying39 Tryz.underlying5 Tryz.underlying9 (fun j hj => by
        rw [Lib.row_is_numeral hF j hj, Lib.add_plain, World.cell?_drewN]
        exact cell?_putRow (fun (b : UInt8) => Value.int .u8 (b.toNat : Int)) _ w.heap.size 0 _ dk HH0.out (by rw [hF.size, Array.size_replicate]) j (by rw [hF.size]; rw [Lib.decDigits_length] at hj; exact hj))
      rw [Lib.decDigits_length] at h
      exact h
    go_wp2
    go_ret
    have e1 : ∃ os, (putRow (fun (b : UInt8) => Value.int .u8 (b.toNat : Int)) (w.alloc (.cells Lib.zeros24 130)) w.heap.size 0 dk).drewN k = grow (w.drewN k) os := by
      rw [alloc_eq_grow]
      obtain ⟨os', _, e⟩ := putRow_grow_new (fun (b : UInt8) => Value.int .u8 (b.toNat : Int)) w #[.cells Lib.zeros24 130] w.heap.size 0 dk (Nat.le_refl _)
      exact ⟨os', by rw [e]; rfl⟩
    obtain ⟨os, eo⟩ := e1
    exact ⟨rfl, k, os, eo⟩

set_option maxHeartbeats 1000000 in
theorem FormatUint_any (u : Nat) (hu64 : u < 18446744073709551616) (w : World) (htab : Lib.TabIs Tryz.prog w "internal/strconv.uint64pow10" .u64 Lib.pow10Tab) :
    Calls Tryz.prog 119 #[.int .u64 u, .int .i64 10] w fun e w' => e = .returned (.string (bs (decDigits u))) ∧ ∃ k os, w' = grow (w.drewN k) os := by
  go_enter Tryz.func119, Tryz.ntmps119
  go_wp2_with fail
  refine (formatUint_any u hu64 _ htab).mono ?_
  rintro e w' ⟨rfl, k, os, hw⟩
  have HW := Lib.hid hw
  clear hw
  go_wp2_with fail
  go_ret
  exact ⟨rfl, k, os, HW.out⟩
end Go.Proofs.YtidokamjbglkbaaGreatDoor

/- Writing into the buffer by itself. -/
namespace Go.Proofs.YtidokamjbglkbaaGreatDoor
open Go.RowKit
section
variable {B b : Nat} {r0 : RS} {w0 w : World} {k txt : List UInt8} {G : Nat → Prop}
theorem At.bws (t : List UInt8) (h : At B b r0 w0 k txt G w) (hsk : r0.skip = false) (hl : r0.out.length + (txt.length + t.length) ≤ 1000000000) :
    Calls Tryz.prog 76 #[.pointer (some ⟨b, 3, none⟩), .string (bs t)] w fun e w' => e = .returned (.tuple #[.int .i64 t.length, .nilIface]) ∧ At B b r0 w0 k (txt ++ t) T0 w' := by
  obtain ⟨o, l, h1, h2, h3, h4⟩ := h
  have hb := RS.to_len r0 k o l txt
  refine (bWriteString B b _ (bs t) w h3 (by simp; omega)).mono ?_
  rintro e w' ⟨rfl, hr, hk⟩
  refine ⟨by simp, o, l, h1, fun _ => trivial, hr.cast ?_, h4.trans hk⟩
  simp [RS.to, hsk]

theorem At.setLast (n : Nat) (h : At B b r0 w0 k txt G w) : At B b r0 w0 k txt (fun l => l = n) (w.setCell ⟨b, 7, none⟩ (.int .u8 n)) := by
  obtain ⟨o, l, h1, h2, ⟨ad, buf, h3⟩, h4⟩ := h
  refine ⟨o, n, h1, fun _ => rfl, ⟨ad, buf, ?_⟩, h3.keeps h4 7 _⟩
  exact h3.setLast n rfl

theorem At.c7 (h : At B b r0 w0 k txt G w) : ∃ v, w.cell? ⟨b, 7, none⟩ = some v := by
  obtain ⟨_, _, _, _, ⟨ad, buf, h⟩, _⟩ := h; exact ⟨_, h.c7⟩
theorem At.tab (h : At B b r0 w0 k txt G w) : Tabs B w := by
  obtain ⟨_, _, _, _, h, _⟩ := h; exact h.tab
end
end Go.Proofs.YtidokamjbglkbaaGreatDoor

/- In silence. -/
namespace Go.Proofs.YtidokamjbglkbaaGreatDoor
open Go.RowKit
section
variable {B b : Nat} {r0 : RS} {w0 w : World} {k txt : List UInt8} {G : Nat → Prop}
/-- In silence any text is as good as another. -/
theorem At.quiet {t' : List UInt8} {G' : Nat → Prop} (h : At B b r0 w0 k txt G w) (hs : r0.skip = true) : At B b r0 w0 k t' G' w := by
  obtain ⟨o, l, h1, h2, h3, h4⟩ := h
  exact ⟨o, l, h1, (fun e => by rw [hs] at e; cases e), h3.cast (by simp [RS.to, hs]), h4⟩
end
/-- In silence nothing is told. -/
theorem Says.quiet {f : FuncId} {xs : Array Value} {lb : Nat} {inp k t t' : List UInt8} {G G' : Nat → Prop} (h : Says f xs lb true inp k t G) : Says f xs lb true inp k t' G' := by
  intro B b r w hr hsk hlb hi _
  refine (h B b r w hr hsk hlb hi (fun e => by rw [hsk] at e; cases e)).mono ?_
  rintro e w' ⟨rfl, o, l, h1, h2, h3, h4⟩
  exact ⟨rfl, o, l, h1, (fun e => by rw [hsk] at e; cases e), h3.cast (by simp [RS.to, hsk]), h4⟩
end Go.Proofs.YtidokamjbglkbaaGreatDoor

/- zzIndex of a byte, zzReplaceAll of a byte by a byte. -/
namespace Go.Proofs.YtidokamjbglkbaaGreatDoor
open Go.RowKit

theorem At.below {B b : Nat} {r0 : RS} {w0 w w' : World} {k txt : List UInt8} {G : Nat → Prop} (h : At B b r0 w0 k txt G w) (hb : Below w.heap.size w w') : At B b r0 w0 k txt G w' := by
  obtain ⟨o, l, h1, h2, ⟨ad, buf, h3⟩, h4⟩ := h
  refine ⟨o, l, h1, h2, ⟨ad, buf, ?_⟩, h4.trans ⟨hb.os, hb.tape, hb.output, hb.size, fun k hk _ => hb.block k hk⟩⟩
  refine ⟨h3.hB, by have := h3.hw; have := hb.size; omega, h3.len, h3.tab.same (fun k hk => hb.block k (by have := h3.hw; omega)), (hb.block b h3.rst.lt).trans h3.heap, h3.addr, ?_⟩
  obtain ⟨h5, h6⟩ := h3.own
  refine ⟨h5, ?_⟩
  rcases h6 with h6 | ⟨g, cap, cur, hv, hg, hh, hr⟩
  · exact .inl h6
  · exact .inr ⟨g, cap, cur, hv, hg, (hb.block g (Array.getElem?_eq_some_iff.1 hh).1).trans hh, hr⟩

set_option maxHeartbeats 2000000 in
set_option maxRecDepth 100000 in
theorem index_some (p q : List UInt8) (c : UInt8) (hc : ∀ x ∈ p, x ≠ c) (hl : (p ++ c :: q).length ≤ 1000000000000) (w : World) :
    Calls Tryz.prog 53 #[.string (bs (p ++ c :: q)), .string (bs [c])] w fun e w' => e = .returned (.int .i64 p.length) ∧ w' = w := by
  obtain ⟨l, hl0⟩ : ∃ l, l = p ++ c :: q := ⟨_, rfl⟩
  rw [← hl0] at hl ⊢
  have hpl : p.length < l.length := by rw [hl0]; simp
  have hat : l[p.length]'hpl = c := by simp [hl0]
  have hlo : ∀ k (h : k < p.length), l[k]'(by omega) ≠ c := fun k h => by
    have : l[k]'(by omega) = p[k] := by simp [hl0, List.getElem_append_left h]
    rw [this]; exact hc _ (List.getElem_mem h)
  have HC := Lib.hid hlo
  have HA := Lib.hid hat
  clear hc hlo hat hl0
  go_enter Tryz.func53, Tryz.ntmps53
  go_wp2_with fail
  go_loop [5] (fun i => ∃ k : Nat, k ≤ p.length ∧ i = .int .i64 k) (fun i => p.length + 1 - (intOf i).toNat)
  case atStart => exact ⟨0, Nat.zero_le _, rfl⟩
  case round =>
    obtain ⟨k, hk, rfl⟩ := hrel
    have hlt : k < l.length := by omega
    have hcut : (l.drop k).take (k + 1 - k) = [l[k]] := by rw [Nat.add_sub_cancel_left, List.drop_eq_getElem_cons hlt]; rfl
    by_cases hkp : k < p.length
    · have hs : (((bs l).extract k (k + 1)).toList == (bs [c]).toList) = false := by
        rw [Lib.bytes_beq_false_iff, bs_extract, hcut]
        intro e
        have := bs_inj e
        simp at this
        exact HC.out k hkp this
      clear hcut
      go_wp2_with fail
      go_round
      case rel => exact ⟨k + 1, by omega, by go_num⟩
      case measure => simp [intOf]; omega
    · obtain rfl : k = p.length := by omega
      have hs : (((bs l).extract p.length (p.length + 1)).toList == (bs [c]).toList) = true := by
        rw [bs_extract, hcut, HA.out]; exact BEq.rfl
      clear hcut
      go_wp2_with fail
      go_ret
      exact ⟨rfl, rfl⟩

theorem row_kind2 {w : World} {B size : Nat} {e : TypeId} {v : Value} {n : Nat} {xs : List Value} (h : w.ownsRow B e size v n xs) : ∀ k, v.ownBlock = some k → B ≤ k := fun k hk => (h.lt k hk).1
theorem conv_row2 {w : World} {B : Nat} {v : Value} {l : List UInt8} (h : w.ownsRow B tB 1 v l.length (bv l)) :
    (convert 39 9 v).run Tryz.prog w = .ok (.string (bs l)) w := by
  have hc := fun g (hg : v.ownBlock = some g) => h.cells (g := g) hg
  rcases h.2 with ⟨rfl, h0⟩ | ⟨g, cap, cur, rfl, _⟩
  · have : l = [] := List.eq_nil_of_length_eq_zero h0
    subst this
    exact Lib.run_convert_nil_bytes w _ _ 5 0 Tryz.underlying39 Tryz.underlying5 Tryz.underlying9
  · refine run_convert_bytes_back _ _ _ 5 _ cap l Tryz.underlying39 Tryz.underlying5 Tryz.underlying9 ?_
    intro j hj
    exact hc g rfl j _ (by simp [bv, hj])
/-- A dash for an underscore. -/
def rep (c : UInt8) : UInt8 := if c = 95 then 45 else c
theorem split_at (c : UInt8) (l : List UInt8) : (∀ x ∈ l, x ≠ c) ∨ ∃ p q, l = p ++ c :: q ∧ ∀ x ∈ p, x ≠ c := by
  induction l with
  | nil => exact .inl fun x hx => by cases hx
  | cons a l ih =>
    by_cases ha : a = c
    · exact .inr ⟨[], l, by rw [ha]; rfl, fun x hx => by cases hx⟩
    · rcases ih with ih | ⟨p, q, h1, h2⟩
      · exact .inl fun x hx => by rcases List.mem_cons.1 hx with rfl | hx; exact ha; exact ih x hx
      · exact .inr ⟨a :: p, q, by rw [h1]; rfl, fun x hx => by rcases List.mem_cons.1 hx with rfl | hx; exact ha; exact h2 x hx⟩
theorem map_id_of {l : List UInt8} {f : UInt8 → UInt8} (h : ∀ x ∈ l, f x = x) : l.map f = l := by
  induction l with
  | nil => rfl
  | cons a l ih => rw [List.map_cons, h a (by simp), ih fun x hx => h x (by simp [hx])]

set_option maxHeartbeats 4000000 in
set_option maxRecDepth 100000 in
theorem replace_any (l : List UInt8) (f : UInt8 → UInt8) (hf : ∀ x, f x = if x = 95 then 45 else x) (hl : l.length ≤ 100000) (w : World) :
    Calls Tryz.prog 121 #[.string (bs l), .string (bs [95]), .string (bs [45])] w fun e w' => e = .returned (.string (bs (l.map f))) ∧ Below w.heap.size w w' := by
  obtain ⟨i0, hi, hz0, hz1, hz2⟩ := info_parts infoB
  have HF := Lib.hid hf
  clear hf
  go_enter Tryz.func121, Tryz.ntmps121
  go_wp2_with fail
  go_loopw [0, 7] (fun s v wr => ∃ acc rest : List UInt8, s = .string (bs rest) ∧ acc ++ rest.map f = l.map f ∧ wr.ownsRow w.heap.size tB 1 v acc.length (bv acc) ∧ Below w.heap.size w wr) (fun s _ _ => match s with | .string b => b.size | _ => 0)
  case atStart => exact ⟨[], l, rfl, rfl, World.ownsRow_nil _ _ _ _, Below.refl _ _⟩
  case round =>
    obtain ⟨acc, rest, rfl, hacc, own, hb⟩ := hrel
    have hlen : acc.length + rest.length ≤ l.length := by have := congrArg List.length hacc; simp at this; omega
    have HA := Lib.hid hacc
    clear hacc
    have hB := hb.size
    rcases split_at 95 rest with h | ⟨p, q, rfl, h⟩
    · have e1 : rest.map f = rest := map_id_of fun x hx => by rw [HF.out, if_neg (h x hx)]
      have HA2 : Hid (acc ++ rest = l.map f) := Lib.hid (by rw [← HA.out, e1])
      have HX := Lib.hid (fun w => index_none rest 95 h (by omega) w)
      clear h e1 HA
      have q1 : acc.length + (bs rest).size ≤ maxLen := by simp; unfold maxLen; omega
      have q2 : acc.length + (bs rest).size ≤ 140737488355328 := by simp; omega
      go_wp2_with (first
        | (go_at_call 53; refine (HX.out _).mono ?_; rintro e w1 ⟨rfl, rfl⟩)
        | (at_builtin; refine Lib.wpList_append_own_string _ rfl _ _ 39 9 rfl w.heap.size tB i0 Tryz.underlying39 Tryz.underlying9 hi hz0 hz1 hz2 _ _ _ rfl own (bs rest) rfl q1 q2 hB ?_))
      intro v' w2 own' hg _
      have hb2 := Lib.hid (hb.grown hg hB (row_kind2 own))
      have own2 : w2.ownsRow w.heap.size tB 1 v' (acc ++ rest).length (bv (acc ++ rest)) := by
        have e1 : (acc ++ rest).length = acc.length + (bs rest).size := by simp
        rw [strCells_bv, bs_list] at own'
        rw [e1]; simpa [bv] using own'
      have cv := conv_row2 own2
      obtain ⟨ao, n', cap, rfl⟩ : ∃ ao n' cap, v' = .slice ao n' cap := by
        rcases own'.2 with ⟨hv, _⟩ | ⟨g, cap, cur, hv, _⟩
        · exact ⟨_, _, _, hv⟩
        · exact ⟨_, _, _, hv⟩
      clear own own' own2 hg
      go_wp2
      go_ret
      exact ⟨by rw [HA2.out]; rfl, hb2.out⟩
    · have HX := Lib.hid (fun w => index_some p q 95 h (by simp at hlen ⊢; omega) w)
      have e1 : p.map f = p := map_id_of fun x hx => by rw [HF.out, if_neg (h x hx)]
      have HA2 : Hid ((acc ++ p ++ [45]) ++ q.map f = l.map f) := Lib.hid (by rw [← HA.out]; simp [e1, HF.out])
      clear h e1 HA
      simp only [List.length_append, List.length_cons] at hlen
      have q1 : acc.length + (bs p).size ≤ maxLen := by simp; unfold maxLen; omega
      have q2 : acc.length + (bs p).size ≤ 140737488355328 := by simp; omega
      have q3 : (acc ++ p).length + (bs [45]).size ≤ maxLen := by simp; unfold maxLen; omega
      have q4 : (acc ++ p).length + (bs [45]).size ≤ 140737488355328 := by simp; omega
      have e2 : (bs (p ++ 95 :: q)).extract 0 p.length = bs p := by rw [bs_take]; simp
      have e3 : (bs (p ++ 95 :: q)).extract (p.length + 1) (p.length + (q.length + 1)) = bs q := by
        rw [bs_extract]
        have : (p ++ 95 :: q).drop (p.length + 1) = q := by rw [List.drop_append]; simp
        rw [this, List.take_of_length_le (by omega)]
      go_wp2_with (first
        | (go_at_call 53; refine (HX.out _).mono ?_; rintro e w1 ⟨rfl, rfl⟩)
        | (at_builtin; refine Lib.wpList_append_own_string _ rfl _ _ 39 9 rfl w.heap.size tB i0 Tryz.underlying39 Tryz.underlying9 hi hz0 hz1 hz2 _ _ _ rfl own (bs p) rfl q1 q2 hB ?_))
      intro v' w2 own' hg _
      have hb2 := hb.grown hg hB (row_kind2 own)
      have hB2 := hb2.size
      have own2 : w2.ownsRow w.heap.size tB 1 v' (acc ++ p).length (bv (acc ++ p)) := by
        have e1 : (acc ++ p).length = acc.length + (bs p).size := by simp
        rw [strCells_bv, bs_list] at own'
        rw [e1]; simpa [bv] using own'
      have HB2 := Lib.hid hb2
      clear own own' hg hb hb2
      go_wp2_with (at_builtin; refine Lib.wpList_append_own_string _ rfl _ _ 39 9 rfl w.heap.size tB i0 Tryz.underlying39 Tryz.underlying9 hi hz0 hz1 hz2 _ _ _ rfl own2 (bs [45]) rfl q3 q4 hB2 ?_)
      intro v2 w3 own' hg _
      have hb3 := Lib.hid (HB2.out.grown hg hB2 (row_kind2 own2))
      have own3 : w3.ownsRow w.heap.size tB 1 v2 (acc ++ p ++ [45]).length (bv (acc ++ p ++ [45])) := by
        have e1 : (acc ++ p ++ [45]).length = (acc ++ p).length + (bs [45]).size := by simp; omega
        rw [strCells_bv, bs_list] at own'
        rw [e1]; simpa [bv] using own'
      clear own2 own' hg
      go_wp2
      go_roundw
      case measure => simp; omega
      case rel => exact ⟨acc ++ p ++ [45], q, rfl, HA2.out, own3, hb3.out⟩
end Go.Proofs.YtidokamjbglkbaaGreatDoor

