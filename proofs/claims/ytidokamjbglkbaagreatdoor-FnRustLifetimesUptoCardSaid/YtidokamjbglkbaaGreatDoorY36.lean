/- Trees in which nothing is bound: right, and told alike, wherever they stand. No program in sight. -/
import Derived.Test.YtidokamjbglkbaaGreatDoorY04
import Derived.Test.YtidokamjbglkbaaGreatDoorY02
import Derived.Test.YtidokamjbglkbaaGreatDoorY31
import Derived.Test.YtidokamjbglkbaaGreatDoorY01
import Derived.Test.YtidokamjbglkbaaGreatDoorY32
import Derived.Test.YtidokamjbglkbaaGreatDoorCards
import Derived.Lay
import Derived.Lib.LaidU8
import Derived.Deep.DeepWitnessRowRef
import Derived.MakeChecks
import Derived.Test.YtidokamjbglkbaaGreatDoorTie
import Derived.SevenTiedAt
import Derived.WideKeyArgs
import Derived.Carry
import Derived.LaidLaws
namespace Go.Proofs.YtidokamjbglkbaaGreatDoor

mutual
/-- Nothing is bound in a tree. -/
def noB : RT → Prop
  | .mk kd _ _ n _ ks => ¬ (0 < n ∧ (kd = 15 ∨ kd = 16)) ∧ noBs ks
def noBs : List RT → Prop
  | [] => True
  | k :: ks => noB k ∧ noBs ks
end
theorem noBs_mem {ks : List RT} (h : noBs ks) : ∀ k ∈ ks, noB k := by
  induction ks with
  | nil => intro k hk; simp at hk
  | cons a l ih =>
    intro k hk
    rw [noBs] at h
    rcases List.mem_cons.1 hk with rfl | hk
    · exact h.1
    · exact ih h.2 k hk
theorem noB.kids {kd : Int} {c : UInt8} {nm : List UInt8} {n : Nat} {fl : Bool} {ks : List RT} (h : noB (.mk kd c nm n fl ks)) : ∀ k ∈ ks, noB k := by
  rw [noB] at h; exact noBs_mem h.2
theorem noB.zero {kd : Int} {c : UInt8} {nm : List UInt8} {n : Nat} {fl : Bool} {ks : List RT} (h : noB (.mk kd c nm n fl ks)) (hk : kd = 15 ∨ kd = 16) : n = 0 := by
  rw [noB] at h
  by_cases h0 : 0 < n
  · exact absurd ⟨h0, hk⟩ h.1
  · omega

theorem rt_more {b0 : Nat} {t : RT} (h : Rt b0 t) : b0 = 0 → noB t → ∀ b, b ≤ 20 → Rt b t := by
  induction h with
  | crate b c nm n fl hn hm => intro _ _ b' _; exact .crate b' c nm n fl hn hm
  | impl b c nm n fl p t hn hp kp ht kt ihp iht => intro h0 hb b' hb'; exact .impl b' c nm n fl p t hn hp kp (iht h0 (hb.kids t (by simp)) b' hb') kt
  | timpl b c nm n fl p t q hn hp kp ht kt hq kq ihp iht ihq => intro h0 hb b' hb'; exact .timpl b' c nm n fl p t q hn hp kp (iht h0 (hb.kids t (by simp)) b' hb') kt (ihq h0 (hb.kids q (by simp)) b' hb') kq
  | tdef b c nm n fl t q hn ht kt hq kq iht ihq => intro h0 hb b' hb'; exact .tdef b' c nm n fl t q hn (iht h0 (hb.kids t (by simp)) b' hb') kt (ihq h0 (hb.kids q (by simp)) b' hb') kq
  | nested b c nm n fl p hn hc hp kp ih => intro h0 hb b' hb'; exact .nested b' c nm n fl p hn hc (ih h0 (hb.kids p (by simp)) b' hb') kp
  | gen b c nm n fl p gs hn has hp kp ha ka ihp iha => intro h0 hb b' hb'; exact .gen b' c nm n fl p gs hn has (ihp h0 (hb.kids p (by simp)) b' hb') kp (fun a h => iha a h h0 (hb.kids a (by simp [h])) b' hb') ka
  | basic b c nm n fl hc => intro _ _ b' _; exact .basic b' c nm n fl hc
  | arr b c nm n fl t k ht kt hk kk iht ihk => intro h0 hb b' hb'; exact .arr b' c nm n fl t k (iht h0 (hb.kids t (by simp)) b' hb') kt (ihk h0 (hb.kids k (by simp)) b' hb') kk
  | slice b c nm n fl t ht kt ih => intro h0 hb b' hb'; exact .slice b' c nm n fl t (ih h0 (hb.kids t (by simp)) b' hb') kt
  | tuple b c nm n fl ts ht kt ih => intro h0 hb b' hb'; exact .tuple b' c nm n fl ts (fun a h => ih a h h0 (hb.kids a h) b' hb') kt
  | ref b c nm n fl t hn ht kt ih => intro h0 hb b' hb'; exact .ref b' c nm n fl t (by omega) (ih h0 (hb.kids t (by simp)) b' hb') kt
  | «mut» b c nm n fl t hn ht kt ih => intro h0 hb b' hb'; exact .mut b' c nm n fl t (by omega) (ih h0 (hb.kids t (by simp)) b' hb') kt
  | cptr b c nm n fl t ht kt ih => intro h0 hb b' hb'; exact .cptr b' c nm n fl t (ih h0 (hb.kids t (by simp)) b' hb') kt
  | mptr b c nm n fl t ht kt ih => intro h0 hb b' hb'; exact .mptr b' c nm n fl t (ih h0 (hb.kids t (by simp)) b' hb') kt
  | fn b c nm n fl ps r hn ha hr0 hp kp hr kr ihp ihr =>
    intro h0 hb b' hb'
    obtain rfl : n = 0 := hb.zero (.inl rfl)
    exact .fn b' c nm 0 fl ps r (by omega) ha hr0 (fun a h => ihp a h (by omega) (hb.kids a (by simp [h])) (b' + 0) (by omega)) kp (ihr (by omega) (hb.kids r (by simp)) (b' + 0) (by omega)) kr
  | dyn b c nm n fl bs l hn hb0 hbb kb hl kl ihb ihl =>
    intro h0 hb b' hb'
    obtain rfl : n = 0 := hb.zero (.inr rfl)
    exact .dyn b' c nm 0 fl bs l (by omega) hb0 (fun a h => ihb a h (by omega) (hb.kids a (by simp [h])) (b' + 0) (by omega)) kb (ihl h0 (hb.kids l (by simp)) b' hb') kl
  | bound b c nm n fl p bd hp kp hbb kb ihp ihb => intro h0 hb b' hb'; exact .bound b' c nm n fl p bd (ihp h0 (hb.kids p (by simp)) b' hb') kp (fun a h => ihb a h h0 (hb.kids a (by simp [h])) b' hb') kb
  | binding b c nm n fl t hm ht kt ih => intro h0 hb b' hb'; exact .binding b' c nm n fl t hm (ih h0 (hb.kids t (by simp)) b' hb') kt
  | life b c nm n fl hn => intro h0 _ b' _; exact .life b' c nm n fl (by omega)
  | num b c nm n fl K hK hn => intro _ _ b' _; exact .num b' c nm n fl K hK hn
  | hole b c nm n fl => intro _ _ b' _; exact .hole b' c nm n fl

theorem txtsT_more (ks : List RT) (h : ∀ k ∈ ks, ∀ m lb, txt m lb k = txt m 0 k) (lb : Nat) : txtsT lb ks = txtsT 0 ks := by
  induction ks with
  | nil => rfl
  | cons k ks ih => rw [txtsT, txtsT, h k (by simp) .t lb, ih fun x hx => h x (List.mem_cons_of_mem _ hx)]
theorem txts_more (ks : List RT) (h : ∀ k ∈ ks, ∀ m lb, txt m lb k = txt m 0 k) (m : Md) (lb : Nat) : txts m lb ks = txts m 0 ks := by
  induction ks with
  | nil => rfl
  | cons k ks ih => rw [txts, txts, h k (by simp) m lb, ih fun x hx => h x (List.mem_cons_of_mem _ hx)]
theorem txt_kids (kd : Int) (c : UInt8) (nm : List UInt8) (n : Nat) (fl : Bool) (ks : List RT) (hk : ∀ k ∈ ks, ∀ m lb, txt m lb k = txt m 0 k) (h15 : kd ≠ 15 ∧ kd ≠ 16 ∨ n = 0) (h11 : kd ≠ 11 ∧ kd ≠ 12 ∧ kd ≠ 19 ∨ n = 0) (m : Md) (lb : Nat) : txt m lb (.mk kd c nm n fl ks) = txt m 0 (.mk kd c nm n fl ks) := by
  have e1 := txtsT_more ks hk
  have e2 := txts_more ks hk
  rcases h15 with ⟨h15, h16⟩ | rfl
  · rcases h11 with ⟨h11, h12, h19⟩ | rfl
    · simp only [txt, e1 lb, e2 _ lb, if_neg h15, if_neg h16, if_neg h11, if_neg h12, if_neg h19]
    · simp only [txt, e1 lb, e2 _ lb, if_neg h15, if_neg h16]
      rfl
  · simp only [txt, Nat.add_zero, e1 lb, e2 _ lb, binderText, if_true]
    rfl
theorem txt_more {b0 : Nat} {t : RT} (h : Rt b0 t) : b0 = 0 → noB t → ∀ m lb, txt m lb t = txt m 0 t := by
  induction h with
  | crate | basic | num | hole => intro _ _ m lb; exact txt_kids _ _ _ _ _ _ (by simp) (.inl (by decide)) (.inl (by decide)) m lb
  | life b c nm n fl hn => intro h0 _ m lb; exact txt_kids _ _ _ _ _ _ (by simp) (.inl (by decide)) (.inr (by omega)) m lb
  | impl b c nm n fl p t hn hp kp ht kt ihp iht => intro h0 hb m lb; exact txt_kids _ _ _ _ _ _ (by simp; exact ⟨ihp rfl (hb.kids p (by simp)), iht h0 (hb.kids t (by simp))⟩) (.inl (by decide)) (.inl (by decide)) m lb
  | timpl b c nm n fl p t q hn hp kp ht kt hq kq ihp iht ihq => intro h0 hb m lb; exact txt_kids _ _ _ _ _ _ (by simp; exact ⟨ihp rfl (hb.kids p (by simp)), iht h0 (hb.kids t (by simp)), ihq h0 (hb.kids q (by simp))⟩) (.inl (by decide)) (.inl (by decide)) m lb
  | tdef b c nm n fl t q hn ht kt hq kq iht ihq => intro h0 hb m lb; exact txt_kids _ _ _ _ _ _ (by simp; exact ⟨iht h0 (hb.kids t (by simp)), ihq h0 (hb.kids q (by simp))⟩) (.inl (by decide)) (.inl (by decide)) m lb
  | nested b c nm n fl p hn hc hp kp ih => intro h0 hb m lb; exact txt_kids _ _ _ _ _ _ (by simp; exact ih h0 (hb.kids p (by simp))) (.inl (by decide)) (.inl (by decide)) m lb
  | gen b c nm n fl p gs hn has hp kp ha ka ihp iha => intro h0 hb m lb; exact txt_kids _ _ _ _ _ _ (by simp; exact ⟨ihp h0 (hb.kids p (by simp)), fun a h => iha a h h0 (hb.kids a (by simp [h]))⟩) (.inl (by decide)) (.inl (by decide)) m lb
  | arr b c nm n fl t k ht kt hk kk iht ihk => intro h0 hb m lb; exact txt_kids _ _ _ _ _ _ (by simp; exact ⟨iht h0 (hb.kids t (by simp)), ihk h0 (hb.kids k (by simp))⟩) (.inl (by decide)) (.inl (by decide)) m lb
  | slice b c nm n fl t ht kt ih => intro h0 hb m lb; exact txt_kids _ _ _ _ _ _ (by simp; exact ih h0 (hb.kids t (by simp))) (.inl (by decide)) (.inl (by decide)) m lb
  | tuple b c nm n fl ts ht kt ih => intro h0 hb m lb; exact txt_kids _ _ _ _ _ _ (fun a h => ih a h h0 (hb.kids a h)) (.inl (by decide)) (.inl (by decide)) m lb
  | ref b c nm n fl t hn ht kt ih => intro h0 hb m lb; exact txt_kids _ _ _ _ _ _ (by simp; exact ih h0 (hb.kids t (by simp))) (.inl (by decide)) (.inr (by omega)) m lb
  | «mut» b c nm n fl t hn ht kt ih => intro h0 hb m lb; exact txt_kids _ _ _ _ _ _ (by simp; exact ih h0 (hb.kids t (by simp))) (.inl (by decide)) (.inr (by omega)) m lb
  | cptr b c nm n fl t ht kt ih => intro h0 hb m lb; exact txt_kids _ _ _ _ _ _ (by simp; exact ih h0 (hb.kids t (by simp))) (.inl (by decide)) (.inl (by decide)) m lb
  | mptr b c nm n fl t ht kt ih => intro h0 hb m lb; exact txt_kids _ _ _ _ _ _ (by simp; exact ih h0 (hb.kids t (by simp))) (.inl (by decide)) (.inl (by decide)) m lb
  | fn b c nm n fl ps r hn ha hr0 hp kp hr kr ihp ihr =>
    intro h0 hb m lb
    obtain rfl : n = 0 := hb.zero (.inl rfl)
    refine txt_kids _ _ _ _ _ _ ?_ (.inr rfl) (.inr rfl) m lb
    intro k hk
    rcases List.mem_append.1 hk with h | h
    · exact ihp k h (by omega) (hb.kids k hk)
    · simp at h; subst h; exact ihr (by omega) (hb.kids k hk)
  | dyn b c nm n fl bs l hn hb0 hbb kb hl kl ihb ihl =>
    intro h0 hb m lb
    obtain rfl : n = 0 := hb.zero (.inr rfl)
    refine txt_kids _ _ _ _ _ _ ?_ (.inr rfl) (.inr rfl) m lb
    intro k hk
    rcases List.mem_append.1 hk with h | h
    · exact ihb k h (by omega) (hb.kids k hk)
    · simp at h; subst h; exact ihl h0 (hb.kids k hk)
  | bound b c nm n fl p bd hp kp hbb kb ihp ihb => intro h0 hb m lb; exact txt_kids _ _ _ _ _ _ (by simp; exact ⟨ihp h0 (hb.kids p (by simp)), fun a h => ihb a h h0 (hb.kids a (by simp [h]))⟩) (.inl (by decide)) (.inl (by decide)) m lb
  | binding b c nm n fl t hm ht kt ih => intro h0 hb m lb; exact txt_kids _ _ _ _ _ _ (by simp; exact ih h0 (hb.kids t (by simp))) (.inl (by decide)) (.inl (by decide)) m lb
end Go.Proofs.YtidokamjbglkbaaGreatDoor

/- A type of functions over a reference with a bound lifetime, read. -/
namespace Go.Proofs.YtidokamjbglkbaaGreatDoor
open Go.RowKit

/-- for<..> fn(&'x t) -/
def lifeFn (t : RT) (cnt idx : Nat) : RT := .mk 15 0 [] cnt false [.mk 11 0 [] idx false [t], .mk 7 117 [] 0 false []]
theorem life_rt {t : RT} (hf : FitT t) (hb : noB t) {cnt idx : Nat} (h2 : idx ≤ cnt) (h3 : cnt ≤ 20) : Rt 0 (lifeFn t cnt idx) := by
  have ht := rt_more hf.rt rfl hb (0 + cnt) (by omega)
  refine Rt.fn 0 0 [] cnt false [.mk 11 0 [] idx false [t]] (.mk 7 117 [] 0 false []) (by omega) (by decide) (by simp [RT.kd]) ?_ ?_ (.basic _ _ _ _ _ (by decide)) (by decide)
  · intro x hx
    simp at hx; subst hx
    exact .ref _ _ _ _ _ _ (by omega) ht hf.kd
  · intro x hx
    simp at hx; subst hx
    exact (by decide : isTypeK 11)
theorem life_size (t : RT) (cnt idx : Nat) : size (lifeFn t cnt idx) = size t + 3 := by simp [lifeFn, size, sizes]; omega
theorem life_emp (t : RT) (cnt idx : Nat) : emp (lifeFn t cnt idx) = false := by simp [lifeFn, emp, empL]
theorem life_txt {t : RT} (hf : FitT t) (hb : noB t) {cnt idx : Nat} (h0 : cnt ≠ 0) (h1 : idx ≠ 0) :
    txt .t 0 (lifeFn t cnt idx) = 102 :: 111 :: 114 :: 60 :: (joined [44, 32] (forNames 0 cnt) ++ (62 :: 32 :: 102 :: 110 :: 40 :: 38 :: (lifeText cnt idx ++ (32 :: (tell t ++ [41]))))) := by
  have e := txt_more hf.rt rfl hb .t cnt
  simp [lifeFn, txt, txtsT, fnWords, joined, tailText, binderText, h0, h1, e, tell, RT.kd, RT.c]
theorem read_life {t : RT} (hf : FitT t) (hb : noB t) {cnt idx : Nat} (h2 : idx ≤ cnt) (h3 : cnt ≤ 20) (hroom : Roomy (enc idW (lifeFn t cnt idx)).length (bnds idW 0 0 (lifeFn t cnt idx))) :
    ReadAs (nameOf (pieceOf (lifeFn t cnt idx))) (toldOf (txt .t 0 (lifeFn t cnt idx))) := by
  have hr := life_rt hf hb h2 h3
  have hs := life_size t cnt idx
  have hsz := hf.sz
  have he := life_emp t cnt idx
  have ht : Told (lifeFn t cnt idx) 0 false [] [69] := told_all (off := 0) (T := (enc idW (lifeFn t cnt idx)).length) hr (by omega) (by omega) (fun _ => rfl) (by omega) hroom (by omega) (by unfold Sep; rw [he]; simp)
  have ha := ht.arg (.inl (show isTypeK 15 by decide))
  have ep : pieceOf (lifeFn t cnt idx) = enc idW (lifeFn t cnt idx) := by unfold pieceOf; rw [he]; simp
  have hen := enc_ok _ _ (Nat.le_refl _) 0 (by omega) hr
  have htx := txt_ok _ _ (Nat.le_refl _) 0 (by omega) hr .t 0
  obtain ⟨c, l, e, hd⟩ := enc_head (idw := idW) hr
  rw [ep]
  refine read_args _ _ [txt .t 0 (lifeFn t cnt idx)] ?_ (by simp [joined, tailText]) ?_ (by have := hen.2; omega) (by omega)
  · have ha' : Says 111 #[] 0 false (enc idW (lifeFn t cnt idx) ++ [69]) [69] (txt .t 0 (lifeFn t cnt idx)) T0 := ha
    rw [e, List.cons_append] at ha' ⊢
    exact Run.cons c _ _ _ _ _ (hd.type (show isTypeK 15 by decide)).ne69 ha' (Run.nil [])
  · intro x hx e
    subst e
    exact hen.1 46 hx rfl
end Go.Proofs.YtidokamjbglkbaaGreatDoor

/- A witness's world: the listed variables hold what the program's text lays. What the rows' lists give. -/
namespace Go.Proofs.YtidokamjbglkbaaGreatDoor
open Go.ChangeShapes Go.WideShapes Go.ChangeAt Go.RowKit

theorem own : ownKnob Tryz.prog.godebug = none := by kernel_rfl

abbrev basicN : String := "loop.example/pub-g01453/pub/rustdemangle.rustBasicTypes"
/-- The seven lists. -/
def laidL : List (String × DataW Unit) := [("math/bits.deBruijn32tab", Rows.laid_math_bits_deBruijn32tab), ("math/bits.deBruijn64tab", Rows.laid_math_bits_deBruijn64tab), ("internal/strconv.uint64pow10", Rows.laid_internal_strconv_uint64pow10), ("unicode/utf8.acceptRanges", Rows.laid_unicode_utf8_acceptRanges), ("loop.example/pub-g01453/pub/rustdemangle.ErrNotMangledName", Rows.laid_loop_example_pub_g01453_pub_rustdemangle_ErrNotMangledName), (basicN, Rows.laid_loop_example_pub_g01453_pub_rustdemangle_rustBasicTypes), ("unicode/utf8.first", Rows.laid_unicode_utf8_first)]
def greatL : List String := ["math/bits.deBruijn32tab", "math/bits.deBruijn64tab", "internal/strconv.uint64pow10", "unicode/utf8.acceptRanges", "loop.example/pub-g01453/pub/rustdemangle.ErrNotMangledName", "unicode/utf8.first"]

/-- The entries of the table of basic types. -/
def basicEntries : Array MapEntry := ((List.range 21).map fun i => match ([(97, [105, 56]), (98, [98, 111, 111, 108]), (99, [99, 104, 97, 114]), (100, [102, 54, 52]), (101, [115, 116, 114]), (102, [102, 51, 50]), (104, [117, 56]), (105, [105, 115, 105, 122, 101]), (106, [117, 115, 105, 122, 101]), (108, [105, 51, 50]), (109, [117, 51, 50]), (110, [105, 49, 50, 56]), (111, [117, 49, 50, 56]), (112, [95]), (115, [105, 49, 54]), (116, [117, 49, 54]), (117, [40, 41]), (118, [46, 46, 46]), (120, [105, 54, 52]), (121, [117, 54, 52]), (122, [33])] : List (Int × List UInt8))[i]? with
  | some (k, s) => { key := .int .u8 k, val := .string ⟨s.toArray⟩, born := i }
  | none => { key := .int .u8 0, val := .string ⟨#[]⟩, born := i }).toArray
/-- The settled world with the table of basic types, in a block of its own. -/
noncomputable def w0 (os : Os) : World :=
  let h := World.holding Tryz.prog os ⟨#[.map basicEntries 21], #[], []⟩
  { h with heap := h.heap.modify ((Tryz.prog.globalNamed basicN).getD 0) fun
      | .cells _ t fr => .cells #[.map (some (h.heap.size - 1))] t fr
      | o => o }
/-- ... and with the other variables. -/
noncomputable def wit (os : Os) : World := (w0 os).layVars Tryz.prog (laidL.filter fun x => greatL.contains x.1)
theorem wit_os (os : Os) : (wit os).os = os := World.layVars_os _ _ _
noncomputable def blocksB : List Nat := [(Tryz.prog.globalNamed basicN).getD 0, (begin Tryz.prog (fun _ _ => 0) default).world.heap.size]

theorem wit_fits (os : Os) : (w0 os).layFits Tryz.prog (laidL.filter fun x => greatL.contains x.1) blocksB = true := by kernel_rfl
theorem wit_ifaces (os : Os) : (w0 os).layIfaces Tryz.prog (laidL.filter fun x => greatL.contains x.1) (wit os) = true := by kernel_rfl
theorem wit_map (os : Os) : LaidIn Tryz.prog (wit os) (laidL.filter fun x => !greatL.contains x.1) blocksB :=
  LaidIn.of_run blocksB 8 (by kernel_rfl) (by kernel_rfl) (by kernel_rfl) (by kernel_rfl)
theorem wit_met (os : Os) (args : Array Value) : laidMet Tryz.prog laidL ((wit os).forCall (fun _ _ => 0) ⟨#[], args, []⟩).memory := by
  have h : laidMet Tryz.prog laidL (wit os) := laidMet_layVars (w0 := w0 os) greatL blocksB rfl (wit_fits os) (wit_ifaces os) (wit_map os)
  exact h.of_heap (by simp [World.memory, World.forCall, Input.heap])
theorem plain_laidL (W : World) (h : laidMetH Tryz.prog laidL W) : laidMet Tryz.prog laidL W := by
  rw [MakeChecks.laidMetH_plain _ _ _ (by kernel_rfl)] at h; exact h
theorem laidH_mk (W : World) (h : laidMet Tryz.prog laidL W) : laidMetH Tryz.prog laidL W := by
  rw [MakeChecks.laidMetH_plain _ _ _ (by kernel_rfl)]; exact h

/-- A table that is listed is the table. -/
theorem tab_of_mem {W : World} {L : List (String × DataW Unit)} {name : String} {k : IntKind} {zs : List Int} {g : Nat} {t e : TypeId} {n : Nat} (h : laidMet Tryz.prog L W) (hm : (name, Lib.tabData k zs) ∈ L)
    (hg : Tryz.prog.globalNamed name = some g) (hty : (Tryz.prog.globals[g]?).map (·.type) = some t) (ht : Tryz.prog.underlying t = some (.array n e)) (he : Tryz.prog.underlying e = some (.int k)) (hce : Tryz.prog.cellsOf e = 1) (hct : Tryz.prog.cellsOf t = n) :
    Lib.TabIs Tryz.prog W name k zs := by
  obtain ⟨g', t', cs, fuel, p, hg', ht', hvar, hd⟩ := Lib.laidMet.reads h hm
  obtain rfl := Option.some.inj (hg.symm.trans hg')
  obtain rfl := Option.some.inj (hty.symm.trans ht')
  unfold Lib.TabIs
  rw [hvar, ← Lib.cells_of_tab ht he hce hct hd]
theorem powG : (Tryz.prog.globalNamed "internal/strconv.uint64pow10").isSome = true := by kernel_rfl
theorem powT : ((Tryz.prog.globalNamed "internal/strconv.uint64pow10").bind fun g => (Tryz.prog.globals[g]?).map (·.type)).map (fun t => (Tryz.prog.underlying t).map fun u => match u with | .array n e => (n, e == 22) | _ => (0, false)) = some (some (20, true)) := by kernel_rfl
theorem powC : ((Tryz.prog.globalNamed "internal/strconv.uint64pow10").bind fun g => (Tryz.prog.globals[g]?).map (·.type)).map (fun t => Tryz.prog.cellsOf t) = some 20 := by kernel_rfl
/-- What the rows' lists give. -/
theorem tabs_of {W : World} (h : laidMet Tryz.prog laidL W) : TabsAt W := by
  refine ⟨?_, laidL, h, by simp [laidL], by simp [laidL], by simp [laidL]⟩
  obtain ⟨g, hg⟩ := Option.isSome_iff_exists.1 powG
  have h1 := powT
  have h2 := powC
  rw [hg] at h1 h2
  simp only [Option.bind_some] at h1 h2
  obtain ⟨t, ht, h3⟩ := Option.map_eq_some_iff.1 h1
  rw [ht] at h2
  simp only [Option.map_some, Option.some.injEq] at h2
  obtain ⟨u, hu, h4⟩ := Option.map_eq_some_iff.1 h3
  cases u <;> simp at h4
  obtain ⟨rfl, rfl⟩ := h4
  refine tab_of_mem h (k := .u64) (zs := Lib.pow10Tab) (g := g) (t := t) ?_ hg ht hu Tryz.underlying22 (by kernel_rfl) h2
  have : (Lib.tabData IntKind.u64 Lib.pow10Tab : DataW Unit) = Rows.laid_internal_strconv_uint64pow10 := by kernel_rfl
  rw [this]; simp [laidL]
end Go.Proofs.YtidokamjbglkbaaGreatDoor

/- From a call that returns true and leaves all that was there to a row's and a card's statement. -/
namespace Go.Proofs.YtidokamjbglkbaaGreatDoor
open Go.ChangeShapes Go.WideShapes Go.ChangeAt Go.RowKit

theorem laidOut : laidOutB Tryz.prog = true := by kernel_rfl
/-- A type that can be read to its bottom. -/
noncomputable def okT (t : TypeId) : Bool := Tryz.prog.readableRec t && decide (t < Tryz.prog.types.size)

section
variable {H : Type} {enc : TypeId × Value → H} {W W' : World}
theorem trod_kept {t : TypeId} (ht : okT t = true) {n : Nat} {cs : List Value} {x : DataW H × List MemPlace} (h : DataW.trod enc Tryz.prog W 0 (fun _ => true) true n t cs = some x) (hb : Below W.heap.size W W') (hlt : ∀ p ∈ x.2, p.block < W.heap.size) :
    DataW.trod enc Tryz.prog W' 0 (fun b => decide (b < W.heap.size)) true n t cs = some x := by
  unfold okT at ht
  simp only [Bool.and_eq_true, decide_eq_true_eq] at ht
  exact DataW.trod_stays (kids_book laidOut ht.1) (book_sized ht.1) (fun h => by cases h) ⟨ht.2, book_self t⟩ h (fun p hp => hb.same (hlt p hp)) (fun p hp => by simpa using hlt p hp)
theorem args_kept : ∀ (ts : List TypeId) (vs : List Value) (ds : List (DataW H)) (ps : List MemPlace), DataW.TrodAll enc Tryz.prog W 0 (fun _ => true) true ts vs ds ps → (∀ t ∈ ts, okT t = true) → Below W.heap.size W W' → (∀ p ∈ ps, p.block < W.heap.size) →
    DataW.TrodAll enc Tryz.prog W' 0 (fun b => decide (b < W.heap.size)) true ts vs ds ps
  | [], [], [], _, h, _, _, _ => h
  | t :: ts, v :: vs, d :: ds, _, ⟨p, q, ⟨n, h1⟩, h2, e⟩, ht, hb, hlt => by
    subst e
    exact ⟨p, q, ⟨n, trod_kept (ht t (List.mem_cons_self ..)) h1 hb fun x hx => hlt x (List.mem_append_left _ hx)⟩, args_kept ts vs ds q h2 (fun t h => ht t (List.mem_cons_of_mem _ h)) hb (fun x hx => hlt x (List.mem_append_right _ hx)), rfl⟩
  | [], _ :: _, _, _, h, _, _, _ => h.elim
  | [], [], _ :: _, _, h, _, _, _ => h.elim
  | _ :: _, [], _, _, h, _, _, _ => h.elim
  | _ :: _, _ :: _, [], _, h, _, _, _ => h.elim
theorem vars_kept : ∀ (ns : List String) (gs : List (DataW H)) (ps : List MemPlace), DataW.TrodVars enc Tryz.prog W (fun _ => true) ns gs ps → (∀ n ∈ ns, ∀ g t, Tryz.prog.globalNamed n = some g → (Tryz.prog.globals[g]?).map (·.type) = some t → okT t = true) →
    Below W.heap.size W W' → (∀ p ∈ ps, p.block < W.heap.size) → DataW.TrodVars enc Tryz.prog W' (fun b => decide (b < W.heap.size)) ns gs ps
  | [], [], _, h, _, _, _ => h
  | n :: ns, d :: gs, _, ⟨g, t, cs, fuel, p, q, h1, h2, h3, h4, h5, e⟩, ht, hb, hlt => by
    subst e
    have hg : g < W.heap.size := by
      rcases Nat.lt_or_ge g W.heap.size with h | h
      · exact h
      · unfold World.var? at h3; rw [h1] at h3; simp [Array.getElem?_eq_none h] at h3
    refine ⟨g, t, cs, fuel, p, q, h1, h2, ?_, trod_kept (ht n (List.mem_cons_self ..) g t h1 h2) h4 hb fun x hx => hlt x (by simp [hx]), vars_kept ns gs q h5 (fun n h => ht n (List.mem_cons_of_mem _ h)) hb (fun x hx => hlt x (by simp [hx])), rfl⟩
    rw [← h3]
    unfold World.var?
    rw [h1]
    simp only [Option.bind_some, hb.block g hg]
  | [], _ :: _, _, h, _, _, _ => h.elim
  | _ :: _, [], _, h, _, _, _ => h.elim
end

theorem errT : (((Tryz.prog.globalNamed "loop.example/pub-g01453/pub/rustdemangle.ErrNotMangledName").bind fun g => (Tryz.prog.globals[g]?).map (·.type)).map okT) = some true := by kernel_rfl
theorem basT : (((Tryz.prog.globalNamed basicN).bind fun g => (Tryz.prog.globals[g]?).map (·.type)).map okT) = some true := by kernel_rfl
theorem names_ok : ∀ n ∈ (["loop.example/pub-g01453/pub/rustdemangle.ErrNotMangledName", basicN] : List String), ∀ g t, Tryz.prog.globalNamed n = some g → (Tryz.prog.globals[g]?).map (·.type) = some t → okT t = true := by
  intro n hn g t h1 h2
  simp only [List.mem_cons, List.not_mem_nil, or_false] at hn
  rcases hn with rfl | rfl
  · have := errT; rw [h1, Option.bind_some, h2] at this; simpa using this
  · have := basT; rw [h1, Option.bind_some, h2] at this; simpa using this

section
variable {H : Type} {enc : TypeId × Value → H} {W W' : World}
set_option maxRecDepth 100000 in
/-- A tree among the arguments, opened: whatever its size. -/
theorem arg_tree {r : Reach} {base : Nat} {v : Value} {d : DataW H} {p : List MemPlace} (hv : Value.okWide Tryz.prog W r base tTree v) (h : DataW.Trod enc Tryz.prog W 0 (fun _ => true) true tTree v d p) :
    ∃ cs t, v = .agg cs ∧ TreeAt maxLen W.heap.size W cs t := by
  obtain ⟨fs, hu, _⟩ := underTree
  obtain ⟨cs, rfl, _⟩ := okWide_struct hu hv
  obtain ⟨n, hn⟩ := h
  obtain ⟨t, ht⟩ := open_tree (M := maxLen) (Bk := fun _ => True) (fun _ _ _ _ => trivial) (fun l s _ h => ⟨h, fun _ _ => trivial⟩) (fun _ _ h => h) n _ _ hn trivial
  exact ⟨cs, t, rfl, by simpa [Value.cells] using ht⟩
/-- A law that returns true and writes only what is new. -/
theorem post_true {f : Func} {s : ChangeSpec} {args : Array Value} {ds gs : List (DataW H)} {before : List MemPlace}
    (hW : DataW.Whole enc Tryz.prog f.params.toList s.vars false W args.toList ds gs before) (hv : s.vars = ["loop.example/pub-g01453/pub/rustdemangle.ErrNotMangledName", basicN])
    (hs : s.fn H (ds ++ gs) = { results := [.lit (.bool true)], args := ds, vars := gs }) (hr : f.resultTypes = #[4]) (hp : ∀ t ∈ f.params.toList, okT t = true) (hb : Below W.heap.size W W') :
    s.post enc Tryz.prog f false true false false W args (.bool true) W' := by
  have hW' := hW
  obtain ⟨p, q, hA, hV, rfl, _, _⟩ := hW
  have hlt : ∀ x ∈ p ++ q, x.block < W.heap.size := fun x hx => by simpa using hW'.lt x hx
  refine ⟨ds, gs, p ++ q, [], p, q, hW', ?_, ?_, ?_, hb.frame _, fun h => by cases h⟩
  · rw [hs, hr]; exact trodAll_cons_mk (shut_bool Tryz.underlying4 _) trodAll_mk0
  · rw [hs]; exact args_kept _ _ _ _ hA hp hb fun x hx => hlt x (List.mem_append_left _ hx)
  · rw [hs]; rw [hv] at hV ⊢; exact vars_kept _ _ _ hV names_ok hb fun x hx => hlt x (List.mem_append_right _ hx)
end
end Go.Proofs.YtidokamjbglkbaaGreatDoor

/- Arguments where what is read is of a bounded bulk. -/
namespace Go.Proofs.YtidokamjbglkbaaGreatDoor
open Go.ChangeShapes Go.WideShapes Go.ChangeAt Go.RowKit

section
variable {H : Type} {enc : TypeId × Value → H} {W : World}
theorem bulk_one (d : DataW H) : 1 ≤ Rows.uptoBulk d := by
  cases d with
  | lit l => cases l <;> simp [Rows.uptoBulk]
  | nil => simp [Rows.uptoBulk]
  | ptr d => simp [Rows.uptoBulk]
  | slice elems spare => simp [Rows.uptoBulk]
  | agg parts => simp [Rows.uptoBulk]
  | iface t d => simp [Rows.uptoBulk]
  | map entries => simp [Rows.uptoBulk]
  | held h => simp [Rows.uptoBulk]
theorem bulk_part {d : DataW H} {l : List (DataW H)} (h : d ∈ l) : Rows.uptoBulk d ≤ Rows.uptoBulkAll l := by
  induction l with
  | nil => cases h
  | cons x r ih =>
    simp only [Rows.uptoBulkAll]
    rcases List.mem_cons.1 h with e | e
    · subst e; omega
    · have := ih e; omega
theorem bulk_len (l : List (DataW H)) : l.length ≤ Rows.uptoBulkAll l := by
  induction l with
  | nil => simp [Rows.uptoBulkAll]
  | cons x r ih => have := bulk_one x; simp only [Rows.uptoBulkAll, List.length_cons]; omega
theorem bulk_parts {l : List (DataW H)} (hk : Rows.uptoSmall H l = true) : ∀ d ∈ l, Rows.uptoBulk d ≤ 1048576 := by
  have : Rows.uptoBulkAll l ≤ 1048576 := by simpa [Rows.uptoSmall] using hk
  exact fun d hd => Nat.le_trans (bulk_part hd) this
theorem two_vars {gs : List (DataW H)} {ps : List MemPlace} {a b : String} (h : DataW.TrodVars enc Tryz.prog W (fun _ => true) [a, b] gs ps) : ∃ g1 g2, gs = [g1, g2] := by
  obtain ⟨g1, gs1, rfl⟩ : ∃ g1 gs1, gs = g1 :: gs1 := by cases gs with | nil => exact h.elim | cons a l => exact ⟨a, l, rfl⟩
  obtain ⟨_, _, _, _, _, _, _, _, _, _, h, _⟩ := h
  obtain ⟨g2, gs2, rfl⟩ : ∃ g2 gs2, gs1 = g2 :: gs2 := by cases gs1 with | nil => exact h.elim | cons a l => exact ⟨a, l, rfl⟩
  obtain ⟨_, _, _, _, _, _, _, _, _, _, h, _⟩ := h
  cases gs2 with
  | nil => exact ⟨g1, g2, rfl⟩
  | cons a l => exact h.elim

set_option maxRecDepth 100000 in
theorem tree_small {fuel : Nat} {cs : List Value} {x : DataW H × List MemPlace} (h : DataW.trod enc Tryz.prog W 0 (fun _ => true) true fuel tTree cs = some x) (hb : Rows.uptoBulk x.1 ≤ 1048576) : ∃ t, TreeAt 1048576 W.heap.size W cs.toArray t := by
  refine open_tree (M := 1048576) (Bk := fun d => Rows.uptoBulk d ≤ 1048576) ?_ ?_ ?_ fuel cs x h hb
  · intro l hl d hd
    simp only [Rows.uptoBulk] at hl
    have := bulk_part hd; omega
  · intro l s hl _
    simp only [Rows.uptoBulk] at hl
    have := bulk_len l
    exact ⟨by omega, fun d hd => by have := bulk_part hd; omega⟩
  · intro l hl _
    simp only [Rows.uptoBulk] at hl
    omega
set_option maxRecDepth 100000 in
/-- A tree among the arguments, opened. -/
theorem arg_treeU {r : Reach} {base : Nat} {v : Value} {d : DataW H} {p : List MemPlace} (hv : Value.okWide Tryz.prog W r base tTree v) (h : DataW.Trod enc Tryz.prog W 0 (fun _ => true) true tTree v d p) (hb : Rows.uptoBulk d ≤ 1048576) :
    ∃ cs t, v = .agg cs ∧ TreeAt 1048576 W.heap.size W cs t := by
  obtain ⟨fs, hu, _⟩ := underTree
  obtain ⟨cs, rfl, _⟩ := okWide_struct hu hv
  obtain ⟨n, hn⟩ := h
  obtain ⟨t, ht⟩ := tree_small hn hb
  exact ⟨cs, t, rfl, by simpa [Value.cells] using ht⟩
end
end Go.Proofs.YtidokamjbglkbaaGreatDoor

/- A list of trees among the arguments, where what is read is of a bounded bulk. -/
namespace Go.Proofs.YtidokamjbglkbaaGreatDoor
open Go.ChangeShapes Go.WideShapes Go.ChangeAt Go.RowKit

/-- A list of trees, as a slice holds it. -/
structure ListAt (M B : Nat) (w : World) (a : Option Addr) (m cap : Nat) (V : Nat → Array Value) (ts : List RT) : Prop where
  len : ts.length = m
  cap : m ≤ cap ∧ cap ≤ maxLen
  le : m ≤ M
  kids : KidsIn B w a m V
  tree : ∀ i (h : i < ts.length), TreeAt M B w (V i) ts[i]
theorem ListAt.mono {M B B' : Nat} {w w' : World} {a : Option Addr} {m cap : Nat} {V : Nat → Array Value} {ts : List RT} (h : ListAt M B w a m cap V ts) (hB : B ≤ B') (hw : ∀ k, k < B → w'.heap[k]? = w.heap[k]?) : ListAt M B' w' a m cap V ts :=
  ⟨h.len, h.cap, h.le, h.kids.mono hB hw, fun i hi => (h.tree i hi).mono hB hw⟩

section
variable {H : Type} {enc : TypeId × Value → H} {W : World}
set_option maxRecDepth 100000 in
/-- A list of trees among the arguments, opened. -/
theorem arg_listU {r : Reach} {base : Nat} {v : Value} {d : DataW H} {p : List MemPlace} (hv : Value.okWide Tryz.prog W r base tTrees v) (h : DataW.Trod enc Tryz.prog W 0 (fun _ => true) true tTrees v d p) (hb : Rows.uptoBulk d ≤ 1048576) :
    ∃ a m cap V ts, v = .slice a m cap ∧ ListAt 1048576 W.heap.size W a m cap V ts := by
  obtain ⟨a0, m0, c0, rfl⟩ := okWide_slice Tryz.underlying23 hv
  obtain ⟨n, hn⟩ := h
  have hn' : DataW.trod enc Tryz.prog W 0 (fun _ => true) true n tTrees [.slice a0 m0 c0] = some (d, p) := by simpa [Value.cells] using hn
  rcases DataW.trod_slice Tryz.underlying23 hn' with ⟨e5, _⟩ | ⟨a, len, cap, elems, rest, n', rfl, e5, x5, _, hl, hm, hel, hE, _, _⟩
  · simp only [List.cons.injEq, and_true] at e5
    obtain ⟨rfl, rfl, rfl⟩ : a0 = none ∧ m0 = 0 ∧ c0 = 0 := by simpa using e5
    exact ⟨none, 0, 0, fun _ => #[], [], rfl, rfl, ⟨Nat.le_refl _, Nat.zero_le _⟩, Nat.zero_le _, fun h => absurd h (by omega), fun i h => absurd h (by simp)⟩
  · simp only [List.cons.injEq, and_true] at e5
    obtain ⟨rfl, rfl, rfl⟩ : a0 = some a ∧ m0 = len ∧ c0 = cap := by simpa using e5
    obtain ⟨hd, hp⟩ := Prod.mk.inj x5
    rw [hd] at hb
    simp only [Rows.uptoBulk] at hb
    have hbl := bulk_len (elems.map fun x => x.fst)
    rw [List.length_map, hel] at hbl
    have hk : ∀ i, i < m0 → ∃ cs', W.cells? 0 (a.add (i * 6)) 6 = some cs' ∧ ∃ t, TreeAt 1048576 W.heap.size W cs'.toArray t := by
      intro i hi
      have := hE i hi
      rw [List.getElem?_eq_getElem (by omega), cellsTree] at this
      obtain ⟨cs', h1, h2⟩ := Option.bind_eq_some_iff.1 this
      have hbi := bulk_part (List.mem_map_of_mem (f := fun x => x.fst) (List.getElem_mem (l := elems) (n := i) (by omega)))
      exact ⟨cs', h1, tree_small h2 (by omega)⟩
    obtain ⟨V, hV⟩ := Go.Deep.choose_lt (α := List Value) (p := fun i cs' => W.cells? 0 (a.add (i * 6)) 6 = some cs' ∧ ∃ t, TreeAt 1048576 W.heap.size W cs'.toArray t) hk
    obtain ⟨T, hT⟩ := Go.Deep.choose_lt (α := RT) (p := fun i t => TreeAt 1048576 W.heap.size W (V i).toArray t) (fun i hi => (hV i hi).2)
    refine ⟨some a, m0, c0, fun i => (V i).toArray, (List.range m0).map T, rfl, by simp, ⟨hl, hm⟩, by omega, ?_, ?_⟩
    · intro h0
      obtain ⟨b, off, spot⟩ := a
      have hcell := fun i hi => World.cells?_some (hV i hi).1
      have hspot : spot = none := by
        obtain ⟨_, hl6, hc6⟩ := hcell 0 h0
        have := hc6 0 (by omega)
        rw [List.getElem?_eq_getElem (by omega), Nat.zero_mul] at this
        exact World.cell?_spot (a := ⟨b, off, spot⟩) this
      subst hspot
      refine ⟨b, off, rfl, ?_, fun i hi => ?_⟩
      · obtain ⟨_, hl6, hc6⟩ := hcell 0 h0
        have := hc6 0 (by omega)
        rw [List.getElem?_eq_getElem (by omega), Nat.zero_mul] at this
        exact cell_lt (a := ⟨b, off, none⟩) this
      · obtain ⟨_, hl6, hc6⟩ := hcell i hi
        refine ⟨by simpa using hl6, fun j hj => ?_⟩
        have := hc6 j (by omega)
        rw [WideShapes.add_plain, WideShapes.add_plain] at this
        simpa using this
    · intro i hi
      simp at hi ⊢
      exact hT i hi
end
end Go.Proofs.YtidokamjbglkbaaGreatDoor

/- What the rows' lists give of the variable of the one other error. -/
namespace Go.Proofs.YtidokamjbglkbaaGreatDoor
open Go.RowKit

theorem errG : Tryz.prog.globalNamed "loop.example/pub-g01453/pub/rustdemangle.ErrNotMangledName" = some gErr := by kernel_rfl
theorem errGT : (Tryz.prog.globals[gErr]?).map (·.type) = some 60 := by kernel_rfl
theorem errNe : (Tryz.prog.typeName? 3 tDE == some "*errors.errorString") = false := by kernel_rfl
theorem err_of {W : World} (h : laidMet Tryz.prog laidL W) : ErrAt W := by
  obtain ⟨g, t, cs, fuel, p, hg, ht, hv, hd⟩ := Lib.laidMet.reads h (show ("loop.example/pub-g01453/pub/rustdemangle.ErrNotMangledName", Rows.laid_loop_example_pub_g01453_pub_rustdemangle_ErrNotMangledName) ∈ laidL by simp [laidL])
  obtain rfl := Option.some.inj (errG.symm.trans hg)
  obtain rfl := Option.some.inj (errGT.symm.trans ht)
  obtain ⟨_, u, v, hcs, hn, _⟩ := iface_of_trod Tryz.underlying60 hd
  refine ⟨u, v, ?_, ?_, ?_⟩
  · intro e
    subst e
    have := errNe
    rw [hn] at this
    exact absurd this (by decide)
  · have := World.var?_cell errG hv 0
    have h0 : cs[0]? = some (.iface u v) := by rw [← Array.getElem?_toList, hcs]; rfl
    rw [h0] at this
    simpa using this
  · have := World.var?_cell errG hv 0
    have h0 : cs[0]? = some (.iface u v) := by rw [← Array.getElem?_toList, hcs]; rfl
    rw [h0] at this
    exact cell_lt this
end Go.Proofs.YtidokamjbglkbaaGreatDoor

/- laws: zzFits2. -/
namespace Go.Proofs.YtidokamjbglkbaaGreatDoor
open Go.RowKit

set_option maxHeartbeats 2000000 in
set_option maxRecDepth 100000 in
theorem fits2_any (kd : Int) (c : UInt8) (nm : List UInt8) (n : Nat) (fl : Bool) (a : Option Addr) (m cap : Nat) (w : World) :
    Calls Tryz.prog 9 #[.agg (rv kd c nm n fl (.slice a m cap))] w fun e w' => ∃ bl : Bool, e = .returned (.bool bl) ∧ Below w.heap.size w w' := by
  by_cases h1 : nm.length ≤ 2147483647
  · by_cases h2 : m ≤ 2147483647
    all_goals
      go_enter Tryz.func9, Tryz.ntmps9
      go_wp2
      all_goals
        go_ret
        exact ⟨_, rfl, (Below.refl _ _).alloc (Nat.le_refl _) _⟩
  · go_enter Tryz.func9, Tryz.ntmps9
    go_wp2
    go_ret
    exact ⟨_, rfl, (Below.refl _ _).alloc (Nat.le_refl _) _⟩

end Go.Proofs.YtidokamjbglkbaaGreatDoor

/- laws: rustSays; the states of a law. -/
namespace Go.Proofs.YtidokamjbglkbaaGreatDoor
open Go.RowKit

set_option maxHeartbeats 2000000 in
set_option maxRecDepth 100000 in
theorem rustSays_any (s txt : List UInt8) (h : ReadAs s txt) (B : Nat) (w : World) (hT : Tabs B w) (hB : B ≤ w.heap.size) :
    Calls Tryz.prog 15 #[.string (bs s), .string (bs txt)] w fun e w' => e = .returned (.bool true) ∧ Below w.heap.size w w' := by
  have HD := Lib.hid (told_any _ _ h B w hT hB)
  clear h hT hB
  go_enter Tryz.func15, Tryz.ntmps15
  go_wp2_with (go_at_call 22; refine HD.out.mono ?_)
  rintro e w1 ⟨rfl, b1⟩
  go_wp2
  go_ret
  refine ⟨?_, b1⟩
  first | rfl | simp

/-- What stays true as long as the blocks that lie there stay. -/
def Firm (P : World → Prop) : Prop := ∀ w w', P w → Below w.heap.size w w' → P w'
theorem firm_and {P Q : World → Prop} (h1 : Firm P) (h2 : Firm Q) : Firm fun w => P w ∧ Q w := fun w w' h b => ⟨h1 w w' h.1 b, h2 w w' h.2 b⟩
/-- A block that lies there. -/
def Blk (k : Nat) (cs : Array Value) (T : TypeId) (w : World) : Prop := w.heap[k]? = some (.cells cs T (0, 0))
theorem firm_blk (k : Nat) (cs : Array Value) (T : TypeId) : Firm (Blk k cs T) := fun _ _ h b => (b.block k (Array.getElem?_eq_some_iff.1 h).1).trans h
/-- A tree that lies there. -/
def Tre (M : Nat) (cs : Array Value) (t : RT) (w : World) : Prop := ∃ B, B ≤ w.heap.size ∧ TreeAt M B w cs t
theorem firm_tre (M : Nat) (cs : Array Value) (t : RT) : Firm (Tre M cs t) := fun _ _ ⟨B, h1, h2⟩ b => ⟨B, by have := b.size; omega, h2.mono (Nat.le_refl _) fun k hk => b.block k (by omega)⟩
theorem Tre.at {M : Nat} {cs : Array Value} {t : RT} {w : World} (h : Tre M cs t w) : TreeAt M w.heap.size w cs t := by
  obtain ⟨B, h1, h2⟩ := h; exact h2.mono h1 fun _ _ => rfl
theorem Tabs.upS {B B' : Nat} {w : World} (h : Tabs B w) (hB : B ≤ B') : Tabs B' w := by
  obtain ⟨W, h1, h2, h3⟩ := h; exact ⟨W, h1, by omega, h3⟩

/-- The worlds in which a law goes on that began in w0. -/
structure Sta (w0 : World) (P : World → Prop) (w : World) : Prop where
  tabs : Tabs w.heap.size w
  below : Below w0.heap.size w0 w
  keep : P w
theorem Sta.step {w0 w w' : World} {P : World → Prop} (h : Sta w0 P w) (f : Firm P) (b : Below w.heap.size w w') : Sta w0 P w' :=
  ⟨(h.tabs.same fun k hk => b.block k hk).upS b.size, h.below.trans (b.mono h.below.size), f _ _ h.keep b⟩
theorem Sta.start {B : Nat} {w : World} {P : World → Prop} (ht : Tabs B w) (hB : B ≤ w.heap.size) (hP : P w) : Sta w P w := ⟨ht.upS hB, Below.refl _ _, hP⟩
/-- One more block. -/
theorem Sta.alloc {w0 w : World} {P : World → Prop} (h : Sta w0 P w) (f : Firm P) (cs : Array Value) (T : TypeId) : Sta w0 (fun w' => P w' ∧ Blk w.heap.size cs T w') (w.alloc (.cells cs T)) := by
  have b : Below w.heap.size w (w.alloc (.cells cs T)) := (Below.refl _ _).alloc (Nat.le_refl _) _
  have h1 := h.step f b
  exact ⟨h1.tabs, h1.below, h1.keep, heap_alloc_new w _⟩
theorem Sta.drew {w0 w : World} {P : World → Prop} (h : Sta w0 P w) (f : Firm P) : Sta w0 P w.drew := h.step f (Below.refl _ _).drew

/-- A call that answers and leaves what lies there. -/
theorem Sta.call {w0 w : World} {P : World → Prop} {f : FuncId} {args : Array Value} {Q : Ending → Prop} (h : Sta w0 P w) (fp : Firm P) (c : Calls Tryz.prog f args w fun e w' => Q e ∧ Below w.heap.size w w') : Calls Tryz.prog f args w fun e w' => Q e ∧ Sta w0 P w' :=
  c.mono fun _ _ ⟨q, b⟩ => ⟨q, h.step fp b⟩
theorem Sta.callB {w0 w : World} {P : World → Prop} {f : FuncId} {args : Array Value} {Q : Prop} (h : Sta w0 P w) (fp : Firm P) (c : Calls Tryz.prog f args w fun e w' => ∃ bl : Bool, e = .returned (.bool bl) ∧ (bl = true → Q) ∧ Below w.heap.size w w') :
    Calls Tryz.prog f args w fun e w' => ∃ bl : Bool, e = .returned (.bool bl) ∧ (bl = true → Q) ∧ Sta w0 P w' :=
  c.mono fun _ _ ⟨bl, e, q, b⟩ => ⟨bl, e, q, h.step fp b⟩
theorem TreeAt.grow {M M' N : Nat} {w : World} {v : Array Value} {t : RT} (h : TreeAt M N w v t) (hM : M ≤ M') : TreeAt M' N w v t := by
  induction h with
  | mk kd c nm n fl a m cap V ks hn hk hc hnm hV _ ih => exact .mk kd c nm n fl a m cap V ks hn hk hc ⟨by omega, by omega⟩ hV ih
/-- A tree whose one kid lies in a block of its own. -/
theorem tree_one {M k : Nat} {w : World} {cs : Array Value} {t : RT} {T : TypeId} (hT : Tre M cs t w) (hb : Blk k cs T w) (kd : Int) (c : UInt8) (nm : List UInt8) (n : Nat) (fl : Bool) (hn : n < 18446744073709551616) (hl : nm.length ≤ M) (hM : 1 ≤ M) :
    TreeAt M w.heap.size w (rv kd c nm n fl (.slice (some ⟨k, 0, none⟩) 1 1)) (.mk kd c nm n fl [t]) := by
  refine .mk kd c nm n fl _ 1 1 (fun _ => cs) [t] hn rfl ⟨Nat.le_refl _, by decide⟩ ⟨hl, hM⟩ ?_ ?_
  · intro _
    refine ⟨k, 0, rfl, (Array.getElem?_eq_some_iff.1 hb).1, fun i hi => ?_⟩
    obtain rfl : i = 0 := by omega
    obtain ⟨kd, c, nm, n, fl, a, m, cap, rfl, _, _⟩ := hT.at.inv
    refine ⟨rfl, fun j _ => ?_⟩
    rw [cellAt hb]
    simp
  · intro i hi
    simp at hi
    subst hi
    exact hT.at
/-- A tree without kids. -/
theorem tree_leaf {M N : Nat} {w : World} (kd : Int) (c : UInt8) (nm : List UInt8) (n : Nat) (fl : Bool) (hn : n < 18446744073709551616) (hl : nm.length ≤ M) : TreeAt M N w (rv kd c nm n fl (.slice none 0 0)) (.mk kd c nm n fl []) :=
  .mk kd c nm n fl none 0 0 (fun _ => #[]) [] hn rfl ⟨Nat.le_refl _, Nat.zero_le _⟩ ⟨hl, Nat.zero_le _⟩ (fun h => absurd h (by omega)) (fun i h => absurd h (by simp))
/-- The cells of a tree that a block holds. -/
theorem Blk.cells {k : Nat} {kd : Int} {c : UInt8} {nm : List UInt8} {n : Nat} {fl : Bool} {ks : Value} {T : TypeId} {w : World} (h : Blk k (rv kd c nm n fl ks) T w) :
    w.cell? ⟨k, 0, none⟩ = some (.int .i64 kd) ∧ w.cell? ⟨k, 1, none⟩ = some (.int .u8 c.toNat) ∧ w.cell? ⟨k, 2, none⟩ = some (.string (bs nm)) ∧ w.cell? ⟨k, 3, none⟩ = some (.int .u64 n) ∧
      w.cell? ⟨k, 4, none⟩ = some (.bool fl) ∧ w.cell? ⟨k, 5, none⟩ = some ks := by
  refine ⟨?_, ?_, ?_, ?_, ?_, ?_⟩ <;> (rw [cellAt h]; rfl)
end Go.Proofs.YtidokamjbglkbaaGreatDoor

