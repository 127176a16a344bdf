/- The reader tells a right tree as its text. -/
import Derived.Test.YtidokamjbglkbaaGreatDoorY05
import Derived.Test.YtidokamjbglkbaaGreatDoorY14
import Derived.Test.YtidokamjbglkbaaGreatDoorY17
import Derived.Test.YtidokamjbglkbaaGreatDoorY18
import Derived.Test.YtidokamjbglkbaaGreatDoorY19
import Derived.Test.YtidokamjbglkbaaGreatDoorY11
namespace Go.Proofs.YtidokamjbglkbaaGreatDoor
open Go.RowKit

theorem Says.any {f : FuncId} {xs : Array Value} {lb : Nat} {sk : Bool} {inp k t : List UInt8} {G : Nat → Prop} (h : Says f xs lb sk inp k t G) : Says f xs lb sk inp k t T0 := h.weaken fun _ _ => trivial
theorem Says.cast {f : FuncId} {xs : Array Value} {lb : Nat} {sk : Bool} {inp inp' k t t' : List UInt8} {G : Nat → Prop} (h : Says f xs lb sk inp k t G) (hi : inp = inp') (ht : t = t') : Says f xs lb sk inp' k t' G := by subst hi; subst ht; exact h
theorem SaysB.cast {f : FuncId} {lb : Nat} {sk st st' : Bool} {inp inp' k t t' : List UInt8} (h : SaysB f lb sk inp k t st) (hi : inp = inp') (ht : t = t') (hs : st = st') : SaysB f lb sk inp' k t' st' := by subst hi; subst ht; subst hs; exact h

/-- Behind each binder more bytes follow, up to T, than lifetimes are bound there. -/
def Roomy (T : Nat) (l : List (Nat × Nat)) : Prop := ∀ p ∈ l, p.1 + p.2 < T
theorem Roomy.left {T : Nat} {l m : List (Nat × Nat)} (h : Roomy T (l ++ m)) : Roomy T l := fun p hp => h p (List.mem_append_left _ hp)
theorem Roomy.right {T : Nat} {l m : List (Nat × Nat)} (h : Roomy T (l ++ m)) : Roomy T m := fun p hp => h p (List.mem_append_right _ hp)

/-- What may follow: behind an empty name no digit and no underscore, or an underscore by itself. -/
def Sep (e : Bool) (sp k : List UInt8) : Prop := if e = true then SepOk sp k else sp = []
theorem Sep.let {e : Bool} {c : UInt8} {l : List UInt8} (h : letHd c) : Sep e [] (c :: l) := sep_if h
theorem Sep.nil {sp k : List UInt8} (h : Sep false sp k) : sp = [] := by simpa [Sep] using h

/-- A tree is read as it is written, where lb lifetimes are bound for the reader and b for the tree. -/
structure Told (t : RT) (lb : Nat) (sk : Bool) (sp k : List UInt8) : Prop where
  path : isPathK t.kd → ∀ sep, Says 74 #[.bool sep] lb sk (enc idW t ++ (sp ++ k)) k (txt (.p sep) lb t) NS
  start : isPathK t.kd → SaysB 130 lb sk (enc idW t ++ (sp ++ k)) k (txt .s lb t) (decide (t.kd = 6))
  type : isTypeK t.kd → Says 86 #[] lb sk (enc idW t ++ (sp ++ k)) k (txt .t lb t) NS
  const : isConstK t.kd → Says 104 #[] lb sk (enc idW t ++ (sp ++ k)) k (txt .t lb t) T0
  arg : isArgK t.kd → Says 111 #[] lb sk (argMark t.kd ++ (enc idW t ++ (sp ++ k))) k (txt .t lb t) T0
  bound : t.kd = 17 → ∀ c0 l, k = c0 :: l → c0.toNat ≠ 112 → letHd c0 → sp = [] → Says 122 #[] lb sk (enc idW t ++ (sp ++ k)) k (txt .t lb t) NS
  binding : t.kd = 18 → ∃ inp k1 p, enc idW t ++ (sp ++ k) = 112 :: inp ∧ Undis inp k1 t.nm p ∧ Says 86 #[] lb sk k1 k ((txtsT lb t.ks).flatten) NS

def Core (t : RT) : Prop := ∀ (b lb : Nat) (sk : Bool) (off T : Nat) (sp k : List UInt8), Rt b t → b ≤ 20 → b ≤ lb → (sk = false → lb = b) → lb + 20 * size t ≤ 1000000 → Roomy T (bnds idW off lb t) → T ≤ off + ((enc idW t).length + (sp.length + k.length)) →
  Sep (emp t) sp k → Told t lb sk sp k

/-- Types, one behind the other, up to an E. -/
theorem run_types (ts : List RT) (hc : ∀ t ∈ ts, Core t) (b lb : Nat) (sk : Bool) : ∀ (off T : Nat) (k : List UInt8), (∀ t ∈ ts, Rt b t) → (∀ t ∈ ts, isTypeK t.kd) → b ≤ 20 → b ≤ lb → (sk = false → lb = b) → lb + 20 * sizes ts ≤ 1000000 → Roomy T (bndsL idW off lb ts) →
    T ≤ off + ((encs idW ts).length + (1 + k.length)) → Run 86 lb sk (encs idW ts ++ (69 :: k)) (69 :: k) (txtsT lb ts) := by
  induction ts with
  | nil => intro off T k _ _ _ _ _ _ _ _; simp only [encs, txtsT, List.nil_append]; exact Run.nil k
  | cons t ts ih =>
    intro off T k hr hk hb hlb hsk hsz hroom hT
    obtain ⟨c, l, e1, hd1⟩ := enc_head (idw := idW) (hr t (by simp))
    obtain ⟨c2, l2, e2, hd2⟩ := encs_head (idw := idW) (fun x hx => hr x (List.mem_cons_of_mem _ hx)) k
    have hty := hd1.type (hk t (by simp))
    rw [sizes] at hsz
    rw [bndsL] at hroom
    rw [encs] at hT
    rw [List.length_append] at hT
    have h1 := (hc t (by simp) b lb sk off T [] (encs idW ts ++ (69 :: k)) (hr t (by simp)) hb hlb hsk (by omega) hroom.left (by simp; omega) (by rw [e2]; exact Sep.let hd2)).type (hk t (by simp))
    have h2 := ih (fun x hx => hc x (List.mem_cons_of_mem _ hx)) (off + (enc idW t).length) T k (fun x hx => hr x (List.mem_cons_of_mem _ hx)) (fun x hx => hk x (List.mem_cons_of_mem _ hx)) hb hlb hsk (by omega) hroom.right (by omega)
    rw [encs, txtsT, List.append_assoc, e1, List.cons_append]
    refine Run.cons c _ _ _ _ _ (by unfold typeHd pathHd at hty; omega) ?_ h2
    rw [e1] at h1
    simpa using h1.any

/-- Arguments, one behind the other, up to an E. -/
theorem run_args (ts : List RT) (hc : ∀ t ∈ ts, Core t) (b lb : Nat) (sk : Bool) : ∀ (off T : Nat) (k : List UInt8), (∀ t ∈ ts, Rt b t) → (∀ t ∈ ts, isArgK t.kd) → b ≤ 20 → b ≤ lb → (sk = false → lb = b) → lb + 20 * sizes ts ≤ 1000000 → Roomy T (bndsA idW off lb ts) →
    T ≤ off + ((encsA idW ts).length + (1 + k.length)) → Run 111 lb sk (encsA idW ts ++ (69 :: k)) (69 :: k) (txtsT lb ts) := by
  induction ts with
  | nil => intro off T k _ _ _ _ _ _ _ _; simp only [encsA, txtsT, List.nil_append]; exact Run.nil k
  | cons t ts ih =>
    intro off T k hr hk hb hlb hsk hsz hroom hT
    obtain ⟨c, l, e1, hd1⟩ := enc_head (idw := idW) (hr t (by simp))
    obtain ⟨c2, l2, e2, hd2⟩ := encsA_head (idw := idW) (fun x hx => hr x (List.mem_cons_of_mem _ hx)) k
    rw [sizes] at hsz
    rw [bndsA] at hroom
    rw [encsA] at hT
    rw [List.length_append, List.length_append] at hT
    have h1 := (hc t (by simp) b lb sk (off + (argMark t.kd).length) T [] (encsA idW ts ++ (69 :: k)) (hr t (by simp)) hb hlb hsk (by omega) hroom.left (by simp; omega) (by rw [e2]; exact Sep.let hd2)).arg (hk t (by simp))
    have h2 := ih (fun x hx => hc x (List.mem_cons_of_mem _ hx)) (off + ((argMark t.kd).length + (enc idW t).length)) T k (fun x hx => hr x (List.mem_cons_of_mem _ hx)) (fun x hx => hk x (List.mem_cons_of_mem _ hx)) hb hlb hsk (by omega) hroom.right (by omega)
    have e3 : encsA idW (t :: ts) ++ (69 :: k) = argMark t.kd ++ (enc idW t ++ ([] ++ (encsA idW ts ++ (69 :: k)))) := by rw [encsA]; simp
    rw [e3, txtsT]
    have hx : ∃ c' l', argMark t.kd ++ (enc idW t ++ ([] ++ (encsA idW ts ++ (69 :: k)))) = c' :: l' ∧ c'.toNat ≠ 69 := by
      unfold argMark
      split
      · exact ⟨75, _, rfl, by decide⟩
      · rename_i h20
        have ha := hk t (by simp)
        unfold isArgK isConstK at ha
        rcases ha with ha | ha | ha
        · have hty := hd1.type ha
          exact ⟨c, _, by rw [e1]; rfl, by unfold typeHd pathHd at hty; omega⟩
        · have hrt := hr t (by simp)
          cases hrt with
          | life => exact ⟨76, _, by simp only [enc, lifeCode]; rfl, by decide⟩
          | crate => exact absurd (show (1 : Int) = 19 from ha) (by decide)
          | _ => simp [RT.kd] at ha
        · exact absurd ha h20
    obtain ⟨c', l', e4, hc'⟩ := hx
    rw [e4] at h1 ⊢
    exact Run.cons c' l' _ _ _ _ hc' h1 h2
end Go.Proofs.YtidokamjbglkbaaGreatDoor

/- Paths: the reader tells them. -/
namespace Go.Proofs.YtidokamjbglkbaaGreatDoor
open Go.RowKit

theorem argMark_nil {kd : Int} (h : isTypeK kd) : argMark kd = [] := by
  unfold argMark
  rw [if_neg]
  unfold isTypeK at h; omega
theorem path_type {kd : Int} (h : isPathK kd) : isTypeK kd := by unfold isPathK at h; unfold isTypeK; omega

theorem told_of_path {t : RT} {lb : Nat} {sk : Bool} {sp k : List UInt8} (hk : isPathK t.kd) (c : UInt8) (l : List UInt8) (e : enc idW t ++ (sp ++ k) = c :: l) (hc : pathHd c) (h6 : t.kd ≠ 6 → c.toNat ≠ 73)
    (P : ∀ sep, Says 74 #[.bool sep] lb sk (c :: l) k (txt (.p sep) lb t) NS) (S : t.kd = 6 → SaysB 130 lb sk (c :: l) k (txt .s lb t) true) : Told t lb sk sp k := by
  have hT : Says 86 #[] lb sk (c :: l) k (txt .t lb t) NS := type_path lb sk c hc l k (txt (.p false) lb t) _ (P false) (txt_path_t lb t hk)
  have hc' := hc
  unfold pathHd at hc'
  unfold isPathK at hk
  refine ⟨fun _ => by rw [e]; exact P, fun hp => ?_, fun _ => by rw [e]; exact hT, fun h => ?_, fun _ => ?_, fun h => ?_, fun h => ?_⟩
  · rw [e]
    by_cases hs : t.kd = 6
    · rw [decide_eq_true hs]; exact S hs
    · rw [decide_eq_false hs, txt_path_s lb t hp hs]
      exact start_path lb sk c ⟨h6 hs, by omega⟩ l k _ (P false)
  · unfold isConstK at h; omega
  · rw [argMark_nil (path_type hk), e, List.nil_append]
    exact (genericArg_T lb sk c l k _ NS hT (by rw [beq_eq_false_iff_ne]; omega) (by rw [beq_eq_false_iff_ne]; omega)).any
  · omega
  · omega

theorem told_of_type {t : RT} {lb : Nat} {sk : Bool} {sp k : List UInt8} (hk : isTypeK t.kd) (hn : ¬ isPathK t.kd) (c : UInt8) (l : List UInt8) (e : enc idW t ++ (sp ++ k) = c :: l) (hc : typeHd c)
    (hT : Says 86 #[] lb sk (c :: l) k (txt .t lb t) NS) : Told t lb sk sp k := by
  have hc' := hc
  unfold typeHd pathHd at hc'
  have hk' := hk
  unfold isTypeK at hk'
  refine ⟨fun h => absurd h hn, fun h => absurd h hn, fun _ => by rw [e]; exact hT, fun h => ?_, fun _ => ?_, fun h => ?_, fun h => ?_⟩
  · unfold isConstK at h; omega
  · rw [argMark_nil hk, e, List.nil_append]
    exact (genericArg_T lb sk c l k _ NS hT (by rw [beq_eq_false_iff_ne]; omega) (by rw [beq_eq_false_iff_ne]; omega)).any
  · omega
  · omega

theorem nameText_some {nm : List UInt8} (h : nameB nm = true) : nameText idW false nm = idW nm := by
  have hne := nameB_ne h
  obtain ⟨c, l, e1, _⟩ := idW_head h
  unfold nameText pt sepOf
  rw [if_neg hne, e1]; simp

/-- A name behind its disambiguator. -/
theorem names_name {nm : List UInt8} (h : nameB nm = true) (n : Nat) (hn : n < 4611686018427387904) (k : List UInt8) : Names (dis n ++ (idW nm ++ k)) k n nm := by
  obtain ⟨p, hu⟩ := undis_name h k
  obtain ⟨c, l, e1, hc⟩ := idW_head h
  refine names_mk n _ k nm p hu (by omega) ⟨c, l ++ k, by rw [e1]; rfl, ?_⟩
  unfold is10 at hc
  rcases hc with hc | hc
  · omega
  · rw [hc]; decide
theorem names_none (n : Nat) (hn : n < 4611686018427387904) (sp k : List UInt8) (hs : SepOk sp k) : Names (dis n ++ (48 :: (sp ++ k))) k n [] := by
  have hu := undis_mk 0 [48] sp k (by simp) (fun c hc => by simp at hc; subst hc; unfold is10; decide) rfl (fun j _ h => absurd h (by omega)) (Nat.zero_le _) (by omega) hs
  rw [List.drop_zero, List.take_zero] at hu
  exact names_mk n _ k [] false hu (by omega) ⟨48, _, rfl, by decide⟩

theorem core_crate (c : UInt8) (nm : List UInt8) (n : Nat) (fl : Bool) (hn : n < 4611686018427387904) (hm : nameB nm = true) (lb : Nat) (sk : Bool) (sp k : List UInt8) (hs : Sep false sp k) : Told (.mk 1 c nm n fl []) lb sk sp k := by
  have hs := hs.nil
  subst hs
  have hne := nameB_ne hm
  have e1 : enc idW (.mk 1 c nm n fl []) ++ ([] ++ k) = 67 :: (dis n ++ (idW nm ++ k)) := by
    have e0 : enc idW (.mk 1 c nm n fl []) = 67 :: (dis n ++ nameText idW false nm) := by simp [enc]
    rw [e0, nameText_some hm]; simp
  refine told_of_path (by decide : isPathK 1) 67 _ e1 (by unfold pathHd; decide) (fun _ => by decide) (fun sep => ?_) (fun h => absurd (show (1 : Int) = 6 from h) (by decide))
  exact path_C sep lb sk _ k nm _ n (names_name hm n hn k) hne (name_last hm hne) (by simp [txt])
end Go.Proofs.YtidokamjbglkbaaGreatDoor

/- Implementations: the reader tells them. -/
namespace Go.Proofs.YtidokamjbglkbaaGreatDoor
open Go.RowKit

theorem impl_head {p : RT} (hp : Rt 0 p) (kp : isPathK p.kd) (k : List UInt8) : ∃ c l, enc idW p ++ k = c :: l ∧ c.toNat ≠ 115 := by
  obtain ⟨c, l, e, hc⟩ := path_head (idw := idW) hp kp
  exact ⟨c, l ++ k, by rw [e]; rfl, by unfold pathHd at hc; omega⟩
theorem type_next {b : Nat} {t : RT} (h : Rt b t) (k : List UInt8) : ∃ c l, enc idW t ++ k = c :: l ∧ letHd c := by
  obtain ⟨c, l, e, hc⟩ := enc_head (idw := idW) h
  exact ⟨c, l ++ k, by rw [e]; rfl, hc.lt⟩

section
variable {b lb off T : Nat} {sk : Bool} {sp k : List UInt8} (hb : b ≤ 20) (hlb : b ≤ lb) (hsk : sk = false → lb = b)
include hb hlb hsk

theorem core_impl (c : UInt8) (nm : List UInt8) (n : Nat) (fl : Bool) (p t : RT) (cp : Core p) (ct : Core t) (hn : n < 4611686018427387904) (hp : Rt 0 p) (kp : isPathK p.kd) (ht : Rt b t) (kt : isTypeK t.kd)
    (hsz : lb + 20 * size (.mk 2 c nm n fl [p, t]) ≤ 1000000) (hroom : Roomy T (bnds idW off lb (.mk 2 c nm n fl [p, t]))) (hT : T ≤ off + ((enc idW (.mk 2 c nm n fl [p, t])).length + (sp.length + k.length)))
    (hs : Sep (emp (.mk 2 c nm n fl [p, t])) sp k) : Told (.mk 2 c nm n fl [p, t]) lb sk sp k := by
  have e0 : enc idW (.mk 2 c nm n fl [p, t]) = 77 :: (dis n ++ (enc idW p ++ enc idW t)) := by simp [enc, encs]
  have e1 : enc idW (.mk 2 c nm n fl [p, t]) ++ (sp ++ k) = 77 :: (dis n ++ (enc idW p ++ ([] ++ (enc idW t ++ (sp ++ k))))) := by rw [e0]; simp
  have e2 : bnds idW off lb (.mk 2 c nm n fl [p, t]) = bnds idW (off + (1 + (dis n).length)) lb p ++ bnds idW (off + (1 + (dis n).length) + (enc idW p).length) lb t := by simp [bnds, bndsL]
  have e3 : emp (.mk 2 c nm n fl [p, t]) = emp t := by simp [emp, empL]
  have e4 : size (.mk 2 c nm n fl [p, t]) = 1 + (size p + size t) := by simp [size, sizes]
  rw [e2] at hroom
  rw [e0] at hT
  rw [e3] at hs
  rw [e4] at hsz
  simp only [List.length_cons, List.length_append] at hT
  obtain ⟨c2, l2, h2, hd2⟩ := type_next ht (sp ++ k)
  have P := (cp 0 lb true (off + (1 + (dis n).length)) T [] (enc idW t ++ (sp ++ k)) hp (by omega) (by omega) (fun e => by cases e) (by omega) hroom.left (by simp; omega) (by rw [h2]; exact Sep.let hd2)).path kp false
  have Q := (ct b lb sk (off + (1 + (dis n).length) + (enc idW p).length) T sp k ht hb hlb hsk (by omega) hroom.right (by omega) hs).type kt
  refine told_of_path (by decide : isPathK 2) 77 _ e1 (by unfold pathHd; decide) (fun _ => by decide) (fun sep => ?_) (fun h => absurd (show (2 : Int) = 6 from h) (by decide))
  refine path_M sep lb sk _ _ k _ _ NS (impl_any lb sk n _ _ _ NS (by omega) (impl_head hp kp _) P) Q ?_
  simp [txt, txtsT, joined, tailText]

theorem core_timpl (c : UInt8) (nm : List UInt8) (n : Nat) (fl : Bool) (p t q : RT) (cp : Core p) (ct : Core t) (cq : Core q) (hn : n < 4611686018427387904) (hp : Rt 0 p) (kp : isPathK p.kd) (ht : Rt b t) (kt : isTypeK t.kd) (hq : Rt b q) (kq : isPathK q.kd)
    (hsz : lb + 20 * size (.mk 3 c nm n fl [p, t, q]) ≤ 1000000) (hroom : Roomy T (bnds idW off lb (.mk 3 c nm n fl [p, t, q]))) (hT : T ≤ off + ((enc idW (.mk 3 c nm n fl [p, t, q])).length + (sp.length + k.length)))
    (hs : Sep (emp (.mk 3 c nm n fl [p, t, q])) sp k) : Told (.mk 3 c nm n fl [p, t, q]) lb sk sp k := by
  have e0 : enc idW (.mk 3 c nm n fl [p, t, q]) = 88 :: (dis n ++ (enc idW p ++ (enc idW t ++ enc idW q))) := by simp [enc, encs]
  have e1 : enc idW (.mk 3 c nm n fl [p, t, q]) ++ (sp ++ k) = 88 :: (dis n ++ (enc idW p ++ ([] ++ (enc idW t ++ ([] ++ (enc idW q ++ (sp ++ k))))))) := by rw [e0]; simp
  have e2 : bnds idW off lb (.mk 3 c nm n fl [p, t, q]) = bnds idW (off + (1 + (dis n).length)) lb p ++ (bnds idW (off + (1 + (dis n).length) + (enc idW p).length) lb t ++ bnds idW (off + (1 + (dis n).length) + (enc idW p).length + (enc idW t).length) lb q) := by simp [bnds, bndsL]
  have e3 : emp (.mk 3 c nm n fl [p, t, q]) = emp q := by simp [emp, empL]
  have e4 : size (.mk 3 c nm n fl [p, t, q]) = 1 + (size p + (size t + size q)) := by simp [size, sizes]
  rw [e2] at hroom
  rw [e0] at hT
  rw [e3] at hs
  rw [e4] at hsz
  simp only [List.length_cons, List.length_append] at hT
  obtain ⟨c2, l2, h2, hd2⟩ := type_next ht ([] ++ (enc idW q ++ (sp ++ k)))
  obtain ⟨c3, l3, h3, hd3⟩ := type_next hq (sp ++ k)
  have P := (cp 0 lb true (off + (1 + (dis n).length)) T [] (enc idW t ++ ([] ++ (enc idW q ++ (sp ++ k)))) hp (by omega) (by omega) (fun e => by cases e) (by omega) hroom.left (by simp; omega) (by rw [h2]; exact Sep.let hd2)).path kp false
  have Q := (ct b lb sk (off + (1 + (dis n).length) + (enc idW p).length) T [] (enc idW q ++ (sp ++ k)) ht hb hlb hsk (by omega) hroom.right.left (by simp; omega) (by rw [h3]; exact Sep.let hd3)).type kt
  have R := (cq b lb sk (off + (1 + (dis n).length) + (enc idW p).length + (enc idW t).length) T sp k hq hb hlb hsk (by omega) hroom.right.right (by omega) hs).path kq false
  refine told_of_path (by decide : isPathK 3) 88 _ e1 (by unfold pathHd; decide) (fun _ => by decide) (fun sep => ?_) (fun h => absurd (show (3 : Int) = 6 from h) (by decide))
  refine path_X sep lb sk _ _ _ k _ _ _ NS NS (impl_any lb sk n _ _ _ NS (by omega) (impl_head hp kp _) P) Q R ?_
  simp [txt, txtsT, joined, tailText, txt_path_t lb q kq]

theorem core_tdef (c : UInt8) (nm : List UInt8) (n : Nat) (fl : Bool) (t q : RT) (ct : Core t) (cq : Core q) (ht : Rt b t) (kt : isTypeK t.kd) (hq : Rt b q) (kq : isPathK q.kd)
    (hsz : lb + 20 * size (.mk 4 c nm n fl [t, q]) ≤ 1000000) (hroom : Roomy T (bnds idW off lb (.mk 4 c nm n fl [t, q]))) (hT : T ≤ off + ((enc idW (.mk 4 c nm n fl [t, q])).length + (sp.length + k.length)))
    (hs : Sep (emp (.mk 4 c nm n fl [t, q])) sp k) : Told (.mk 4 c nm n fl [t, q]) lb sk sp k := by
  have e0 : enc idW (.mk 4 c nm n fl [t, q]) = 89 :: (enc idW t ++ enc idW q) := by simp [enc, encs]
  have e1 : enc idW (.mk 4 c nm n fl [t, q]) ++ (sp ++ k) = 89 :: (enc idW t ++ ([] ++ (enc idW q ++ (sp ++ k)))) := by rw [e0]; simp
  have e2 : bnds idW off lb (.mk 4 c nm n fl [t, q]) = bnds idW (off + 1) lb t ++ bnds idW (off + 1 + (enc idW t).length) lb q := by simp [bnds, bndsL]
  have e3 : emp (.mk 4 c nm n fl [t, q]) = emp q := by simp [emp, empL]
  have e4 : size (.mk 4 c nm n fl [t, q]) = 1 + (size t + size q) := by simp [size, sizes]
  rw [e2] at hroom
  rw [e0] at hT
  rw [e3] at hs
  rw [e4] at hsz
  simp only [List.length_cons, List.length_append] at hT
  obtain ⟨c3, l3, h3, hd3⟩ := type_next hq (sp ++ k)
  have Q := (ct b lb sk (off + 1) T [] (enc idW q ++ (sp ++ k)) ht hb hlb hsk (by omega) hroom.left (by simp; omega) (by rw [h3]; exact Sep.let hd3)).type kt
  have R := (cq b lb sk (off + 1 + (enc idW t).length) T sp k hq hb hlb hsk (by omega) hroom.right (by omega) hs).path kq false
  refine told_of_path (by decide : isPathK 4) 89 _ e1 (by unfold pathHd; decide) (fun _ => by decide) (fun sep => ?_) (fun h => absurd (show (4 : Int) = 6 from h) (by decide))
  refine path_Y sep lb sk _ _ k _ _ _ NS NS Q R ?_
  simp [txt, txtsT, joined, tailText, txt_path_t lb q kq]
end
end Go.Proofs.YtidokamjbglkbaaGreatDoor

/- Generics: the reader tells them. -/
namespace Go.Proofs.YtidokamjbglkbaaGreatDoor
open Go.RowKit

section
variable {b lb off T : Nat} {sk : Bool} {sp k : List UInt8} (hb : b ≤ 20) (hlb : b ≤ lb) (hsk : sk = false → lb = b)
include hb hlb hsk

theorem core_gen (c : UInt8) (nm : List UInt8) (n : Nat) (fl : Bool) (p : RT) (gs : List RT) (cp : Core p) (ca : ∀ a ∈ gs, Core a) (hp : Rt b p) (kp : isPathK p.kd) (ha : ∀ a ∈ gs, Rt b a) (ka : ∀ a ∈ gs, isArgK a.kd)
    (hsz : lb + 20 * size (.mk 6 c nm n fl (p :: gs)) ≤ 1000000) (hroom : Roomy T (bnds idW off lb (.mk 6 c nm n fl (p :: gs)))) (hT : T ≤ off + ((enc idW (.mk 6 c nm n fl (p :: gs))).length + (sp.length + k.length)))
    (hs : Sep (emp (.mk 6 c nm n fl (p :: gs))) sp k) : Told (.mk 6 c nm n fl (p :: gs)) lb sk sp k := by
  have hm : argMark p.kd = [] := argMark_nil (path_type kp)
  have e0 : enc idW (.mk 6 c nm n fl (p :: gs)) = 73 :: (enc idW p ++ (encsA idW gs ++ [69])) := by simp [enc, encsA, hm]
  have e3 : emp (.mk 6 c nm n fl (p :: gs)) = false := by simp [emp]
  rw [e3] at hs
  have hs := hs.nil
  subst hs
  have e1 : enc idW (.mk 6 c nm n fl (p :: gs)) ++ ([] ++ k) = 73 :: (enc idW p ++ ([] ++ (encsA idW gs ++ (69 :: k)))) := by rw [e0]; simp
  have e2 : bnds idW off lb (.mk 6 c nm n fl (p :: gs)) = bnds idW (off + 1) lb p ++ bndsA idW (off + 1 + (enc idW p).length) lb gs := by simp [bnds, bndsA, hm]
  have e4 : size (.mk 6 c nm n fl (p :: gs)) = 1 + (size p + sizes gs) := by simp [size, sizes]
  rw [e2] at hroom
  rw [e0] at hT
  rw [e4] at hsz
  simp only [List.length_cons, List.length_append, List.length_nil] at hT
  obtain ⟨c3, l3, h3, hd3⟩ := encsA_head (idw := idW) ha k
  have P := (cp b lb sk (off + 1) T [] (encsA idW gs ++ (69 :: k)) hp hb hlb hsk (by omega) hroom.left (by simp; omega) (by rw [h3]; exact Sep.let hd3)).path kp
  have A := genericArgs_any lb sk _ k _ _ (run_args gs ca b lb sk (off + 1 + (enc idW p).length) T k ha ka hb hlb hsk (by omega) hroom.right (by omega)) rfl
  refine told_of_path (by decide : isPathK 6) 73 _ e1 (by unfold pathHd; decide) (fun h => absurd rfl h) (fun sep => ?_) (fun _ => ?_)
  · cases sep with
    | true => exact path_I_true lb sk _ _ k _ _ _ NS T0 (P true) A (by simp [txt, txtsT, txts, Md.sep])
    | false => exact path_I_false lb sk _ _ k _ _ _ NS T0 (P false) A (by simp [txt, txtsT, txts, Md.sep])
  · exact start_I lb sk _ _ k _ _ _ NS T0 (P false) A (by simp [txt, txtsT, txts, Md.sep])
end
end Go.Proofs.YtidokamjbglkbaaGreatDoor

/- Nested names: the reader tells them. -/
namespace Go.Proofs.YtidokamjbglkbaaGreatDoor
open Go.RowKit

theorem sep_of (e : Bool) (l k : List UInt8) (hl : l ≠ []) : Sep e (sepOf e l) (l ++ k) := by
  cases e with
  | false => simp [Sep, sepOf]
  | true =>
    have := sep_counted l k hl
    simpa [Sep, sepOf] using this
theorem nameText_of (e : Bool) (nm : List UInt8) (hm : nameB nm = true ∨ nm = []) : (if nm = [] then [48] else idW nm) ≠ [] ∧ nameText idW e nm = sepOf e (if nm = [] then [48] else idW nm) ++ (if nm = [] then [48] else idW nm) := by
  rcases hm with hm | rfl
  · have hne := nameB_ne hm
    obtain ⟨c, l, e1, hc⟩ := idW_head hm
    simp [nameText, hne, pt, e1]
  · simp [nameText, pt]
/-- The end of a nested name: what stands between, the disambiguator, the name. -/
theorem nest_tail (e : Bool) (n : Nat) (nm : List UInt8) (hm : nameB nm = true ∨ nm = []) : ∃ sp : List UInt8, pt e (dis n) ++ nameText idW (pe e (dis n)) nm = sp ++ (dis n ++ (if nm = [] then [48] else idW nm)) ∧
    ∀ k, Sep e sp (dis n ++ ((if nm = [] then [48] else idW nm) ++ k)) := by
  by_cases hd : n = 0
  · subst hd
    have e0 : dis 0 = [] := rfl
    rw [e0]
    obtain ⟨h1, h2⟩ := nameText_of e nm hm
    refine ⟨sepOf e (if nm = [] then [48] else idW nm), by simp only [pt, pe, if_true, List.nil_append]; exact h2, fun k => ?_⟩
    rw [List.nil_append]
    exact sep_of e _ k h1
  · have e0 : dis n = 115 :: b62 (n - 1) := by unfold dis; rw [if_neg hd]
    obtain ⟨h1, h2⟩ := nameText_of false nm hm
    refine ⟨[], ?_, fun k => by rw [e0]; exact Sep.let (by unfold letHd; decide)⟩
    rw [e0]
    have e5 : sepOf e (115 :: b62 (n - 1)) = [] := by simp [sepOf, startsDU]
    simp only [pt, pe, reduceCtorEq, if_false, e5, h2]
    simp [sepOf]

theorem core_nested {b lb off T : Nat} {sk : Bool} {sp k : List UInt8} (hb : b ≤ 20) (hlb : b ≤ lb) (hsk : sk = false → lb = b) (c : UInt8) (nm : List UInt8) (n : Nat) (fl : Bool) (p : RT) (cp : Core p) (hn : n < 4611686018427387904)
    (hc : (lowB c = true ∧ nameB nm = true) ∨ ((c = 67 ∨ c = 83) ∧ (nameB nm = true ∨ nm = []))) (hp : Rt b p) (kp : isPathK p.kd)
    (hsz : lb + 20 * size (.mk 5 c nm n fl [p]) ≤ 1000000) (hroom : Roomy T (bnds idW off lb (.mk 5 c nm n fl [p]))) (hT : T ≤ off + ((enc idW (.mk 5 c nm n fl [p])).length + (sp.length + k.length)))
    (hs : Sep (emp (.mk 5 c nm n fl [p])) sp k) : Told (.mk 5 c nm n fl [p]) lb sk sp k := by
  have hm : nameB nm = true ∨ nm = [] := by
    rcases hc with ⟨_, h⟩ | ⟨_, h⟩
    · exact .inl h
    · exact h
  obtain ⟨sp1, h1, h2⟩ := nest_tail (emp p) n nm hm
  obtain ⟨nb, hnb⟩ : ∃ nb, nb = if nm = [] then [48] else idW nm := ⟨_, rfl⟩
  rw [← hnb] at h1 h2
  have e0 : enc idW (.mk 5 c nm n fl [p]) = 78 :: c :: (enc idW p ++ (sp1 ++ (dis n ++ nb))) := by rw [← h1]; simp [enc, encs, empL]
  have e1 : enc idW (.mk 5 c nm n fl [p]) ++ (sp ++ k) = 78 :: c :: (enc idW p ++ (sp1 ++ (dis n ++ (nb ++ (sp ++ k))))) := by rw [e0]; simp
  have e2 : bnds idW off lb (.mk 5 c nm n fl [p]) = bnds idW (off + 2) lb p := by simp [bnds, bndsL]
  have e3 : emp (.mk 5 c nm n fl [p]) = decide (nm = []) := by simp [emp]
  have e4 : size (.mk 5 c nm n fl [p]) = 1 + size p := by simp [size, sizes]
  rw [e2] at hroom
  rw [e0] at hT
  rw [e3] at hs
  rw [e4] at hsz
  simp only [List.length_cons, List.length_append] at hT
  have N : Names (dis n ++ (nb ++ (sp ++ k))) k n nm := by
    rcases hm with hm | rfl
    · have hne := nameB_ne hm
      rw [decide_eq_false hne] at hs
      rw [hs.nil, hnb, if_neg hne]
      exact names_name hm n hn k
    · rw [hnb, if_pos rfl]
      exact names_none n hn sp k (by simpa [Sep] using hs)
  have P := fun sep => (cp b lb sk (off + 2) T sp1 (dis n ++ (nb ++ (sp ++ k))) hp hb hlb hsk (by omega) hroom (by simp; omega) (h2 (sp ++ k))).path kp sep
  refine told_of_path (by decide : isPathK 5) 78 _ e1 (by unfold pathHd; decide) (fun _ => by decide) (fun sep => ?_) (fun h => absurd (show (5 : Int) = 6 from h) (by decide))
  rcases hc with ⟨hlow, hnm⟩ | ⟨hcc, _⟩
  · unfold lowB at hlow
    simp only [Bool.and_eq_true, decide_eq_true_eq] at hlow
    have hne := nameB_ne hnm
    have h67 : c ≠ 67 := fun e => by rw [e] at hlow; exact absurd hlow.1 (by decide)
    have h83 : c ≠ 83 := fun e => by rw [e] at hlow; exact absurd hlow.1 (by decide)
    exact path_N_low sep lb sk c hlow.1 hlow.2 _ _ k _ nm _ n NS (P sep) N hne (name_last hnm hne) (by simp [txt, txts, Md.sep, nestText, h67, h83])
  · rcases hcc with rfl | rfl
    · by_cases hne : nm = []
      · exact path_N_C0 sep lb sk _ _ k _ nm _ n NS (P sep) (by omega) N hne (by simp [txt, txts, Md.sep, nestText, hne])
      · exact path_N_C1 sep lb sk _ _ k _ nm _ n NS (P sep) (by omega) N hne (by simp [txt, txts, Md.sep, nestText, hne])
    · by_cases hne : nm = []
      · exact path_N_S0 sep lb sk _ _ k _ nm _ n NS (P sep) (by omega) N hne (by simp [txt, txts, Md.sep, nestText, hne])
      · exact path_N_S1 sep lb sk _ _ k _ nm _ n NS (P sep) (by omega) N hne (by simp [txt, txts, Md.sep, nestText, hne])
end Go.Proofs.YtidokamjbglkbaaGreatDoor

/- Plain types, constants, lifetimes: the reader tells them. -/
namespace Go.Proofs.YtidokamjbglkbaaGreatDoor
open Go.RowKit

section
variable {b lb off T : Nat} {sk : Bool} {sp k : List UInt8} (hb : b ≤ 20) (hlb : b ≤ lb) (hsk : sk = false → lb = b)
include hb hlb hsk

theorem core_slice (c : UInt8) (nm : List UInt8) (n : Nat) (fl : Bool) (t : RT) (ct : Core t) (ht : Rt b t) (kt : isTypeK t.kd)
    (hsz : lb + 20 * size (.mk 9 c nm n fl [t]) ≤ 1000000) (hroom : Roomy T (bnds idW off lb (.mk 9 c nm n fl [t]))) (hT : T ≤ off + ((enc idW (.mk 9 c nm n fl [t])).length + (sp.length + k.length)))
    (hs : Sep (emp (.mk 9 c nm n fl [t])) sp k) : Told (.mk 9 c nm n fl [t]) lb sk sp k := by
  have e0 : enc idW (.mk 9 c nm n fl [t]) = 83 :: enc idW t := by simp [enc, encs]
  have e1 : enc idW (.mk 9 c nm n fl [t]) ++ (sp ++ k) = 83 :: (enc idW t ++ (sp ++ k)) := by rw [e0]; simp
  have e2 : bnds idW off lb (.mk 9 c nm n fl [t]) = bnds idW (off + 1) lb t := by simp [bnds, bndsL]
  have e3 : emp (.mk 9 c nm n fl [t]) = emp t := by simp [emp, empL]
  have e4 : size (.mk 9 c nm n fl [t]) = 1 + size t := by simp [size, sizes]
  rw [e2] at hroom
  rw [e0] at hT
  rw [e3] at hs
  rw [e4] at hsz
  simp only [List.length_cons] at hT
  have Q := (ct b lb sk (off + 1) T sp k ht hb hlb hsk (by omega) hroom (by omega) hs).type kt
  exact told_of_type (by decide : isTypeK 9) (by decide : ¬ isPathK 9) 83 _ e1 (.inr (by decide)) (type_S lb sk _ k _ _ NS Q (by simp [txt, txtsT]))

theorem core_cptr (c : UInt8) (nm : List UInt8) (n : Nat) (fl : Bool) (t : RT) (ct : Core t) (ht : Rt b t) (kt : isTypeK t.kd)
    (hsz : lb + 20 * size (.mk 13 c nm n fl [t]) ≤ 1000000) (hroom : Roomy T (bnds idW off lb (.mk 13 c nm n fl [t]))) (hT : T ≤ off + ((enc idW (.mk 13 c nm n fl [t])).length + (sp.length + k.length)))
    (hs : Sep (emp (.mk 13 c nm n fl [t])) sp k) : Told (.mk 13 c nm n fl [t]) lb sk sp k := by
  have e0 : enc idW (.mk 13 c nm n fl [t]) = 80 :: enc idW t := by simp [enc, encs]
  have e1 : enc idW (.mk 13 c nm n fl [t]) ++ (sp ++ k) = 80 :: (enc idW t ++ (sp ++ k)) := by rw [e0]; simp
  have e2 : bnds idW off lb (.mk 13 c nm n fl [t]) = bnds idW (off + 1) lb t := by simp [bnds, bndsL]
  have e3 : emp (.mk 13 c nm n fl [t]) = emp t := by simp [emp, empL]
  have e4 : size (.mk 13 c nm n fl [t]) = 1 + size t := by simp [size, sizes]
  rw [e2] at hroom
  rw [e0] at hT
  rw [e3] at hs
  rw [e4] at hsz
  simp only [List.length_cons] at hT
  have Q := (ct b lb sk (off + 1) T sp k ht hb hlb hsk (by omega) hroom (by omega) hs).type kt
  exact told_of_type (by decide : isTypeK 13) (by decide : ¬ isPathK 13) 80 _ e1 (.inr (by decide)) (type_P lb sk _ k _ _ Q (by simp [txt, txtsT]))

theorem core_mptr (c : UInt8) (nm : List UInt8) (n : Nat) (fl : Bool) (t : RT) (ct : Core t) (ht : Rt b t) (kt : isTypeK t.kd)
    (hsz : lb + 20 * size (.mk 14 c nm n fl [t]) ≤ 1000000) (hroom : Roomy T (bnds idW off lb (.mk 14 c nm n fl [t]))) (hT : T ≤ off + ((enc idW (.mk 14 c nm n fl [t])).length + (sp.length + k.length)))
    (hs : Sep (emp (.mk 14 c nm n fl [t])) sp k) : Told (.mk 14 c nm n fl [t]) lb sk sp k := by
  have e0 : enc idW (.mk 14 c nm n fl [t]) = 79 :: enc idW t := by simp [enc, encs]
  have e1 : enc idW (.mk 14 c nm n fl [t]) ++ (sp ++ k) = 79 :: (enc idW t ++ (sp ++ k)) := by rw [e0]; simp
  have e2 : bnds idW off lb (.mk 14 c nm n fl [t]) = bnds idW (off + 1) lb t := by simp [bnds, bndsL]
  have e3 : emp (.mk 14 c nm n fl [t]) = emp t := by simp [emp, empL]
  have e4 : size (.mk 14 c nm n fl [t]) = 1 + size t := by simp [size, sizes]
  rw [e2] at hroom
  rw [e0] at hT
  rw [e3] at hs
  rw [e4] at hsz
  simp only [List.length_cons] at hT
  have Q := (ct b lb sk (off + 1) T sp k ht hb hlb hsk (by omega) hroom (by omega) hs).type kt
  exact told_of_type (by decide : isTypeK 14) (by decide : ¬ isPathK 14) 79 _ e1 (.inr (by decide)) (type_O lb sk _ k _ _ Q (by simp [txt, txtsT]))

theorem core_ref (c : UInt8) (nm : List UInt8) (n : Nat) (fl : Bool) (t : RT) (ct : Core t) (ht : Rt b t) (kt : isTypeK t.kd) (hn : n ≤ b)
    (hsz : lb + 20 * size (.mk 11 c nm n fl [t]) ≤ 1000000) (hroom : Roomy T (bnds idW off lb (.mk 11 c nm n fl [t]))) (hT : T ≤ off + ((enc idW (.mk 11 c nm n fl [t])).length + (sp.length + k.length)))
    (hs : Sep (emp (.mk 11 c nm n fl [t])) sp k) : Told (.mk 11 c nm n fl [t]) lb sk sp k := by
  have e3 : emp (.mk 11 c nm n fl [t]) = emp t := by simp [emp, empL]
  have e4 : size (.mk 11 c nm n fl [t]) = 1 + size t := by simp [size, sizes]
  rw [e3] at hs
  rw [e4] at hsz
  by_cases hn0 : n = 0
  · have e0 : enc idW (.mk 11 c nm n fl [t]) = 82 :: enc idW t := by simp [enc, encs, hn0]
    have e1 : enc idW (.mk 11 c nm n fl [t]) ++ (sp ++ k) = 82 :: (enc idW t ++ (sp ++ k)) := by rw [e0]; simp
    have e2 : bnds idW off lb (.mk 11 c nm n fl [t]) = bnds idW (off + 1) lb t := by simp [bnds, bndsL, hn0]
    rw [e2] at hroom
    rw [e0] at hT
    simp only [List.length_cons] at hT
    have Q := (ct b lb sk (off + 1) T sp k ht hb hlb hsk (by omega) hroom (by omega) hs).type kt
    obtain ⟨c', l', e5, hd⟩ := enc_head (idw := idW) ht
    have hty := hd.type kt
    unfold typeHd pathHd at hty
    rw [e5, List.cons_append] at Q e1
    exact told_of_type (by decide : isTypeK 11) (by decide : ¬ isPathK 11) 82 _ e1 (.inr (by decide)) (type_R lb sk c' (by rw [beq_eq_false_iff_ne]; omega) _ k _ _ Q (by simp [txt, txtsT, hn0]))
  · have e0 : enc idW (.mk 11 c nm n fl [t]) = 82 :: 76 :: (b62 n ++ enc idW t) := by simp [enc, encs, hn0, lifeCode]
    have e1 : enc idW (.mk 11 c nm n fl [t]) ++ (sp ++ k) = 82 :: 76 :: (b62 n ++ (enc idW t ++ (sp ++ k))) := by rw [e0]; simp
    have e2 : bnds idW off lb (.mk 11 c nm n fl [t]) = bnds idW (off + (1 + ((b62 n).length + 1))) lb t := by simp [bnds, bndsL, hn0, lifeCode]
    rw [e2] at hroom
    rw [e0] at hT
    simp only [List.length_cons, List.length_append] at hT
    have Q := (ct b lb sk _ T sp k ht hb hlb hsk (by omega) hroom (by omega) hs).type kt
    exact told_of_type (by decide : isTypeK 11) (by decide : ¬ isPathK 11) 82 _ e1 (.inr (by decide)) (type_RL lb sk n hn0 (by omega) (by omega) (fun e => by have := hsk e; omega) _ k _ _ Q (by simp [txt, txtsT, hn0]))

theorem core_mut (c : UInt8) (nm : List UInt8) (n : Nat) (fl : Bool) (t : RT) (ct : Core t) (ht : Rt b t) (kt : isTypeK t.kd) (hn : n ≤ b)
    (hsz : lb + 20 * size (.mk 12 c nm n fl [t]) ≤ 1000000) (hroom : Roomy T (bnds idW off lb (.mk 12 c nm n fl [t]))) (hT : T ≤ off + ((enc idW (.mk 12 c nm n fl [t])).length + (sp.length + k.length)))
    (hs : Sep (emp (.mk 12 c nm n fl [t])) sp k) : Told (.mk 12 c nm n fl [t]) lb sk sp k := by
  have e3 : emp (.mk 12 c nm n fl [t]) = emp t := by simp [emp, empL]
  have e4 : size (.mk 12 c nm n fl [t]) = 1 + size t := by simp [size, sizes]
  rw [e3] at hs
  rw [e4] at hsz
  by_cases hn0 : n = 0
  · have e0 : enc idW (.mk 12 c nm n fl [t]) = 81 :: enc idW t := by simp [enc, encs, hn0]
    have e1 : enc idW (.mk 12 c nm n fl [t]) ++ (sp ++ k) = 81 :: (enc idW t ++ (sp ++ k)) := by rw [e0]; simp
    have e2 : bnds idW off lb (.mk 12 c nm n fl [t]) = bnds idW (off + 1) lb t := by simp [bnds, bndsL, hn0]
    rw [e2] at hroom
    rw [e0] at hT
    simp only [List.length_cons] at hT
    have Q := (ct b lb sk (off + 1) T sp k ht hb hlb hsk (by omega) hroom (by omega) hs).type kt
    obtain ⟨c', l', e5, hd⟩ := enc_head (idw := idW) ht
    have hty := hd.type kt
    unfold typeHd pathHd at hty
    rw [e5, List.cons_append] at Q e1
    exact told_of_type (by decide : isTypeK 12) (by decide : ¬ isPathK 12) 81 _ e1 (.inr (by decide)) (type_Q lb sk c' (by rw [beq_eq_false_iff_ne]; omega) _ k _ _ Q (by simp [txt, txtsT, hn0]))
  · have e0 : enc idW (.mk 12 c nm n fl [t]) = 81 :: 76 :: (b62 n ++ enc idW t) := by simp [enc, encs, hn0, lifeCode]
    have e1 : enc idW (.mk 12 c nm n fl [t]) ++ (sp ++ k) = 81 :: 76 :: (b62 n ++ (enc idW t ++ (sp ++ k))) := by rw [e0]; simp
    have e2 : bnds idW off lb (.mk 12 c nm n fl [t]) = bnds idW (off + (1 + ((b62 n).length + 1))) lb t := by simp [bnds, bndsL, hn0, lifeCode]
    rw [e2] at hroom
    rw [e0] at hT
    simp only [List.length_cons, List.length_append] at hT
    have Q := (ct b lb sk _ T sp k ht hb hlb hsk (by omega) hroom (by omega) hs).type kt
    exact told_of_type (by decide : isTypeK 12) (by decide : ¬ isPathK 12) 81 _ e1 (.inr (by decide)) (type_QL lb sk n hn0 (by omega) (by omega) (fun e => by have := hsk e; omega) _ k _ _ Q (by simp [txt, txtsT, hn0]))

theorem core_arr (c : UInt8) (nm : List UInt8) (n : Nat) (fl : Bool) (t : RT) (ct : Core t) (ht : Rt b t) (kt : isTypeK t.kd) (q : RT) (cq : Core q) (hq : Rt b q) (kq : isConstK q.kd)
    (hsz : lb + 20 * size (.mk 8 c nm n fl [t, q]) ≤ 1000000) (hroom : Roomy T (bnds idW off lb (.mk 8 c nm n fl [t, q]))) (hT : T ≤ off + ((enc idW (.mk 8 c nm n fl [t, q])).length + (sp.length + k.length)))
    (hs : Sep (emp (.mk 8 c nm n fl [t, q])) sp k) : Told (.mk 8 c nm n fl [t, q]) lb sk sp k := by
  have e0 : enc idW (.mk 8 c nm n fl [t, q]) = 65 :: (enc idW t ++ enc idW q) := by simp [enc, encs]
  have e1 : enc idW (.mk 8 c nm n fl [t, q]) ++ (sp ++ k) = 65 :: (enc idW t ++ ([] ++ (enc idW q ++ (sp ++ k)))) := by rw [e0]; simp
  have e2 : bnds idW off lb (.mk 8 c nm n fl [t, q]) = bnds idW (off + 1) lb t ++ bnds idW (off + 1 + (enc idW t).length) lb q := by simp [bnds, bndsL]
  have e3 : emp (.mk 8 c nm n fl [t, q]) = emp q := by simp [emp, empL]
  have e4 : size (.mk 8 c nm n fl [t, q]) = 1 + (size t + size q) := by simp [size, sizes]
  rw [e2] at hroom
  rw [e0] at hT
  rw [e3] at hs
  rw [e4] at hsz
  simp only [List.length_cons, List.length_append] at hT
  obtain ⟨c3, l3, h3, hd3⟩ := type_next hq (sp ++ k)
  have Q := (ct b lb sk (off + 1) T [] (enc idW q ++ (sp ++ k)) ht hb hlb hsk (by omega) hroom.left (by simp; omega) (by rw [h3]; exact Sep.let hd3)).type kt
  have R := (cq b lb sk (off + 1 + (enc idW t).length) T sp k hq hb hlb hsk (by omega) hroom.right (by omega) hs).const kq
  exact told_of_type (by decide : isTypeK 8) (by decide : ¬ isPathK 8) 65 _ e1 (.inr (by decide)) (type_A lb sk _ _ k _ _ _ NS T0 Q R (by simp [txt, txtsT, joined, tailText]))

theorem core_tuple (c : UInt8) (nm : List UInt8) (n : Nat) (fl : Bool) (ts : List RT) (ct : ∀ t ∈ ts, Core t) (ht : ∀ t ∈ ts, Rt b t) (kt : ∀ t ∈ ts, isTypeK t.kd)
    (hsz : lb + 20 * size (.mk 10 c nm n fl ts) ≤ 1000000) (hroom : Roomy T (bnds idW off lb (.mk 10 c nm n fl ts))) (hT : T ≤ off + ((enc idW (.mk 10 c nm n fl ts)).length + (sp.length + k.length)))
    (hs : Sep (emp (.mk 10 c nm n fl ts)) sp k) : Told (.mk 10 c nm n fl ts) lb sk sp k := by
  have e0 : enc idW (.mk 10 c nm n fl ts) = 84 :: (encs idW ts ++ [69]) := by simp [enc]
  have e3 : emp (.mk 10 c nm n fl ts) = false := by simp [emp]
  rw [e3] at hs
  have hs := hs.nil
  subst hs
  have e1 : enc idW (.mk 10 c nm n fl ts) ++ ([] ++ k) = 84 :: (encs idW ts ++ (69 :: k)) := by rw [e0]; simp
  have e2 : bnds idW off lb (.mk 10 c nm n fl ts) = bndsL idW (off + 1) lb ts := by simp [bnds]
  have e4 : size (.mk 10 c nm n fl ts) = 1 + sizes ts := by simp [size]
  rw [e2] at hroom
  rw [e0] at hT
  rw [e4] at hsz
  simp only [List.length_cons, List.length_append, List.length_nil] at hT
  have R := run_types ts ct b lb sk (off + 1) T k ht kt hb hlb hsk (by omega) hroom (by omega)
  have hl := len_sizes ts
  exact told_of_type (by decide : isTypeK 10) (by decide : ¬ isPathK 10) 84 _ e1 (.inr (by decide)) (type_T lb sk _ k _ _ R (by rw [txtsT_len]; omega) (by simp [txt, txtsT_len]))

end
theorem core_basic {lb : Nat} {sk : Bool} {sp k : List UInt8} (c : UInt8) (nm : List UInt8) (n : Nat) (fl : Bool) (hc : basicText c.toNat ≠ []) (hs : Sep (emp (.mk 7 c nm n fl [])) sp k) : Told (.mk 7 c nm n fl []) lb sk sp k := by
  have e3 : emp (.mk 7 c nm n fl []) = false := by simp [emp]
  rw [e3] at hs
  have hs := hs.nil
  subst hs
  have e1 : enc idW (.mk 7 c nm n fl []) ++ ([] ++ k) = c :: k := by simp [enc]
  have hl := basic_low hc
  exact told_of_type (by decide : isTypeK 7) (by decide : ¬ isPathK 7) c k e1 (by unfold typeHd; omega) (type_basic lb sk c k _ hc (by simp [txt]))
end Go.Proofs.YtidokamjbglkbaaGreatDoor

