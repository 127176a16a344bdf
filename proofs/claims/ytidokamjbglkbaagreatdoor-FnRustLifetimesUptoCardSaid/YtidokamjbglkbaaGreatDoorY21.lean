/- Functions, trait objects, constants: the reader tells them; all right trees. -/
import Derived.Test.YtidokamjbglkbaaGreatDoorY20
import Derived.Test.YtidokamjbglkbaaGreatDoorY01
import Derived.BigQuiet
namespace Go.Proofs.YtidokamjbglkbaaGreatDoor
open Go.RowKit

theorem core_const {lb : Nat} {sk : Bool} {sp k : List UInt8} (c : UInt8) (nm : List UInt8) (n : Nat) (fl : Bool) (K : Nat) (hK : KindOk K c n fl) (hn : n < 18446744073709551616) (hs : Sep (emp (.mk 20 c nm n fl [])) sp k) : Told (.mk 20 c nm n fl []) lb sk sp k := by
  have e3 : emp (.mk 20 c nm n fl []) = false := by simp [emp]
  rw [e3] at hs
  have hs := hs.nil
  subst hs
  have e1 : enc idW (.mk 20 c nm n fl []) ++ ([] ++ k) = c :: (negCode fl ++ (h16 n ++ 95 :: k)) := by simp [enc]
  have hk : constKind c.toNat = K := by
    unfold KindOk isSg isUn at hK
    unfold constKind
    rcases hK with ⟨rfl, h⟩ | ⟨rfl, h, _⟩ | ⟨rfl, h, _⟩ | ⟨rfl, h, _⟩
    · rw [if_neg (by omega), if_neg (by omega), if_pos (by omega)]
    · rw [if_neg (by omega), if_neg (by omega), if_neg (by omega)]
    · rw [if_pos h]
    · rw [if_neg (by omega), if_pos h]
  have C := const_num lb sk c n K fl hK hn k (txt .t lb (.mk 20 c nm n fl [])) (by simp [txt, hk])
  refine ⟨fun h => absurd (show isPathK 20 from h) (by decide), fun h => absurd (show isPathK 20 from h) (by decide), fun h => absurd (show isTypeK 20 from h) (by decide), fun _ => by rw [e1]; exact C, fun _ => ?_, fun h => absurd (show (20 : Int) = 17 from h) (by decide), fun h => absurd (show (20 : Int) = 18 from h) (by decide)⟩
  rw [e1]
  exact genericArg_K lb sk _ k _ T0 C
theorem core_hole {lb : Nat} {sk : Bool} {sp k : List UInt8} (c : UInt8) (nm : List UInt8) (n : Nat) (fl : Bool) (hs : Sep (emp (.mk 21 c nm n fl [])) sp k) : Told (.mk 21 c nm n fl []) lb sk sp k := by
  have e3 : emp (.mk 21 c nm n fl []) = false := by simp [emp]
  rw [e3] at hs
  have hs := hs.nil
  subst hs
  have e1 : enc idW (.mk 21 c nm n fl []) ++ ([] ++ k) = 112 :: k := by simp [enc]
  have C := const_hole lb sk k (txt .t lb (.mk 21 c nm n fl [])) (by simp [txt])
  refine ⟨fun h => absurd (show isPathK 21 from h) (by decide), fun h => absurd (show isPathK 21 from h) (by decide), fun h => absurd (show isTypeK 21 from h) (by decide), fun _ => by rw [e1]; exact C, fun _ => ?_, fun h => absurd (show (21 : Int) = 17 from h) (by decide), fun h => absurd (show (21 : Int) = 18 from h) (by decide)⟩
  rw [e1]
  exact genericArg_K lb sk _ k _ T0 C
theorem core_life {b lb : Nat} {sk : Bool} {sp k : List UInt8} (hb : b ≤ 20) (hlb : b ≤ lb) (hsk : sk = false → lb = b) (hl : lb ≤ 1000000) (c : UInt8) (nm : List UInt8) (n : Nat) (fl : Bool) (hn : n ≤ b) (hs : Sep (emp (.mk 19 c nm n fl [])) sp k) : Told (.mk 19 c nm n fl []) lb sk sp k := by
  have e3 : emp (.mk 19 c nm n fl []) = false := by simp [emp]
  rw [e3] at hs
  have hs := hs.nil
  subst hs
  have e1 : enc idW (.mk 19 c nm n fl []) ++ ([] ++ k) = 76 :: (b62 n ++ k) := by simp [enc, lifeCode]
  refine ⟨fun h => absurd (show isPathK 19 from h) (by decide), fun h => absurd (show isPathK 19 from h) (by decide), fun h => absurd (show isTypeK 19 from h) (by decide), fun h => absurd (show isConstK 19 from h) (by decide), fun _ => ?_, fun h => absurd (show (19 : Int) = 17 from h) (by decide), fun h => absurd (show (19 : Int) = 18 from h) (by decide)⟩
  rw [e1]
  exact genericArg_L lb sk n k _ (by omega) (by omega) (fun e => by have := hsk e; omega) (by simp [txt])

theorem core_binding {b lb off T : Nat} {sk : Bool} {sp k : List UInt8} (hb : b ≤ 20) (hlb : b ≤ lb) (hsk : sk = false → lb = b) (c : UInt8) (nm : List UInt8) (n : Nat) (fl : Bool) (t : RT) (ct : Core t) (hm : nameB nm = true) (ht : Rt b t) (kt : isTypeK t.kd)
    (hsz : lb + 20 * size (.mk 18 c nm n fl [t]) ≤ 1000000) (hroom : Roomy T (bnds idW off lb (.mk 18 c nm n fl [t]))) (hT : T ≤ off + ((enc idW (.mk 18 c nm n fl [t])).length + (sp.length + k.length)))
    (hs : Sep (emp (.mk 18 c nm n fl [t])) sp k) : Told (.mk 18 c nm n fl [t]) lb sk sp k := by
  have e0 : enc idW (.mk 18 c nm n fl [t]) = 112 :: (idW nm ++ enc idW t) := by simp [enc, encs]
  have e1 : enc idW (.mk 18 c nm n fl [t]) ++ (sp ++ k) = 112 :: (idW nm ++ (enc idW t ++ (sp ++ k))) := by rw [e0]; simp
  have e2 : bnds idW off lb (.mk 18 c nm n fl [t]) = bnds idW (off + (1 + (idW nm).length)) lb t := by simp [bnds, bndsL]
  have e3 : emp (.mk 18 c nm n fl [t]) = emp t := by simp [emp, empL]
  have e4 : size (.mk 18 c nm n fl [t]) = 1 + size t := by simp [size, sizes]
  rw [e2] at hroom
  rw [e0] at hT
  rw [e3] at hs
  rw [e4] at hsz
  simp only [List.length_cons, List.length_append] at hT
  have Q := (ct b lb sk _ T sp k ht hb hlb hsk (by omega) hroom (by omega) hs).type kt
  obtain ⟨p, hu⟩ := undis_name hm (enc idW t ++ (sp ++ k))
  refine ⟨fun h => absurd (show isPathK 18 from h) (by decide), fun h => absurd (show isPathK 18 from h) (by decide), fun h => absurd (show isTypeK 18 from h) (by decide), fun h => absurd (show isConstK 18 from h) (by decide), fun h => absurd (show isArgK 18 from h) (by decide), fun h => absurd (show (18 : Int) = 17 from h) (by decide), fun _ => ?_⟩
  exact ⟨_, _, p, e1, hu, Q.cast rfl (by simp [RT.ks, txtsT])⟩

/-- What follows bindings. -/
theorem run_bindings (ts : List RT) (hc : ∀ t ∈ ts, Core t) (b lb : Nat) (sk : Bool) : ∀ (off T : Nat) (c0 : UInt8) (k : List UInt8), c0.toNat ≠ 112 → letHd c0 → (∀ t ∈ ts, Rt b t) → (∀ t ∈ ts, t.kd = 18) → b ≤ 20 → b ≤ lb → (sk = false → lb = b) → lb + 20 * sizes ts ≤ 1000000 → Roomy T (bndsL idW off lb ts) →
    T ≤ off + ((encs idW ts).length + (1 + k.length)) → Bnd lb sk (encs idW ts ++ (c0 :: k)) (c0 :: k) (txtsT lb ts) := by
  induction ts with
  | nil => intro off T c0 k h0 _ _ _ _ _ _ _ _ _; simp only [encs, txtsT, List.nil_append]; exact Bnd.nil c0 k h0
  | cons t ts ih =>
    intro off T c0 k h0 hl0 hr hk hb hlb hsk hsz hroom hT
    have hnext : ∃ c l, encs idW ts ++ (c0 :: k) = c :: l ∧ letHd c := by
      cases ts with
      | nil => exact ⟨c0, k, by simp only [encs, List.nil_append], hl0⟩
      | cons t2 ts2 =>
        obtain ⟨c, l, e, h'⟩ := enc_head (idw := idW) (hr t2 (by simp))
        exact ⟨c, _, by rw [encs, e]; rfl, h'.lt⟩
    obtain ⟨c2, l2, e2, hd2⟩ := hnext
    rw [sizes] at hsz
    rw [bndsL] at hroom
    rw [encs] at hT
    rw [List.length_append] at hT
    obtain ⟨inp, k1, p, e3, hu, hS⟩ := (hc t (by simp) b lb sk off T [] (encs idW ts ++ (c0 :: k)) (hr t (by simp)) hb hlb hsk (by omega) hroom.left (by simp; omega) (by rw [e2]; exact Sep.let hd2)).binding (hk t (by simp))
    have h2 := ih (fun x hx => hc x (List.mem_cons_of_mem _ hx)) (off + (enc idW t).length) T c0 k h0 hl0 (fun x hx => hr x (List.mem_cons_of_mem _ hx)) (fun x hx => hk x (List.mem_cons_of_mem _ hx)) hb hlb hsk (by omega) hroom.right (by omega)
    have e4 : encs idW (t :: ts) ++ (c0 :: k) = enc idW t ++ ([] ++ (encs idW ts ++ (c0 :: k))) := by rw [encs]; simp
    rw [e4, e3, txtsT]
    have e5 : txt .t lb t = t.nm ++ ([32, 61, 32] ++ (txtsT lb t.ks).flatten) := by
      have := hk t (by simp)
      cases t with
      | mk kd c nm n fl ks =>
        have h18 : kd = 18 := this
        subst h18
        simp [txt, RT.nm, RT.ks]
    rw [e5]
    exact Bnd.cons inp k1 _ _ t.nm _ p _ hu hS h2
end Go.Proofs.YtidokamjbglkbaaGreatDoor

/- Trait objects: the reader tells them. -/
namespace Go.Proofs.YtidokamjbglkbaaGreatDoor
open Go.RowKit

theorem core_bound {b lb off T : Nat} {sk : Bool} {sp k : List UInt8} (hb : b ≤ 20) (hlb : b ≤ lb) (hsk : sk = false → lb = b) (c : UInt8) (nm : List UInt8) (n : Nat) (fl : Bool) (p : RT) (bd : List RT) (cp : Core p) (cb : ∀ t ∈ bd, Core t)
    (hp : Rt b p) (kp : isPathK p.kd) (hd : ∀ t ∈ bd, Rt b t) (kd : ∀ t ∈ bd, t.kd = 18)
    (hsz : lb + 20 * size (.mk 17 c nm n fl (p :: bd)) ≤ 1000000) (hroom : Roomy T (bnds idW off lb (.mk 17 c nm n fl (p :: bd)))) (hT : T ≤ off + ((enc idW (.mk 17 c nm n fl (p :: bd))).length + (sp.length + k.length))) : Told (.mk 17 c nm n fl (p :: bd)) lb sk sp k := by
  have e0 : enc idW (.mk 17 c nm n fl (p :: bd)) = enc idW p ++ encs idW bd := by simp [enc, encs]
  have e2 : bnds idW off lb (.mk 17 c nm n fl (p :: bd)) = bnds idW off lb p ++ bndsL idW (off + (enc idW p).length) lb bd := by simp [bnds, bndsL]
  have e4 : size (.mk 17 c nm n fl (p :: bd)) = 1 + (size p + sizes bd) := by simp [size, sizes]
  rw [e2] at hroom
  rw [e0] at hT
  rw [e4] at hsz
  simp only [List.length_append] at hT
  refine ⟨fun h => absurd (show isPathK 17 from h) (by decide), fun h => absurd (show isPathK 17 from h) (by decide), fun h => absurd (show isTypeK 17 from h) (by decide), fun h => absurd (show isConstK 17 from h) (by decide), fun h => absurd (show isArgK 17 from h) (by decide), fun _ => ?_, fun h => absurd (show (17 : Int) = 18 from h) (by decide)⟩
  intro c0 l hk h0 hl0 hsp
  subst hk; subst hsp
  have hnext : ∃ c l', encs idW bd ++ (c0 :: l) = c :: l' ∧ letHd c := by
    cases bd with
    | nil => exact ⟨c0, l, by simp only [encs, List.nil_append], hl0⟩
    | cons t2 ts2 =>
      obtain ⟨c, l', e, h'⟩ := enc_head (idw := idW) (hd t2 (by simp))
      exact ⟨c, _, by rw [encs, e]; rfl, h'.lt⟩
  obtain ⟨c2, l2, e5, hd2⟩ := hnext
  have S := (cp b lb sk off T [] (encs idW bd ++ (c0 :: l)) hp hb hlb hsk (by omega) hroom.left (by simp at hT ⊢; omega) (by rw [e5]; exact Sep.let hd2)).start kp
  have R := run_bindings bd cb b lb sk (off + (enc idW p).length) T c0 l h0 hl0 hd kd hb hlb hsk (by omega) hroom.right (by simp at hT ⊢; omega)
  refine dynTrait_any lb sk (decide (p.kd = 6)) _ _ (c0 :: l) (txt .s lb p) _ (txtsT lb bd) (S.cast (by rw [e0]; simp) rfl rfl) R ?_
  simp only [txt, txtsT, txts, bndText, List.headD_cons, List.drop_succ_cons, List.drop_zero]
  by_cases h6 : p.kd = 6
  · simp [h6]
  · have : (txtsT lb bd = []) = (bd = []) := by
      cases bd with
      | nil => simp [txtsT]
      | cons a l => simp [txtsT]
    simp [h6, this]

/-- Traits, one behind the other, up to the E. -/
theorem run_traits (ts : List RT) (hc : ∀ t ∈ ts, Core t) (b lb : Nat) (sk : Bool) : ∀ (off T : Nat) (k : List UInt8), (∀ t ∈ ts, Rt b t) → (∀ t ∈ ts, t.kd = 17) → b ≤ 20 → b ≤ lb → (sk = false → lb = b) → lb + 20 * sizes ts ≤ 1000000 → Roomy T (bndsL idW off lb ts) →
    T ≤ off + ((encs idW ts).length + (1 + k.length)) → Trs lb sk (encs idW ts ++ (69 :: k)) (69 :: k) (txtsT lb ts) := by
  induction ts with
  | nil => intro off T k _ _ _ _ _ _ _ _; simp only [encs, txtsT, List.nil_append]; exact Trs.nil k
  | cons t ts ih =>
    intro off T k hr hk hb hlb hsk hsz hroom hT
    have hhead : ∃ c l, enc idW t = c :: l ∧ pathHd c := by
      have hrt := hr t (by simp)
      have hkt := hk t (by simp)
      cases hrt with
      | bound _ c nm n fl p bd hp kp _ _ =>
        obtain ⟨c, l, e, h'⟩ := path_head (idw := idW) hp kp
        exact ⟨c, _, by simp only [enc, encs]; rw [e]; rfl, h'⟩
      | _ => exact absurd hkt (by simp [RT.kd])
    obtain ⟨c, l, e1, hd1⟩ := hhead
    have hnext : ∃ c l, encs idW ts ++ (69 :: k) = c :: l ∧ letHd c ∧ c.toNat ≠ 112 := by
      cases ts with
      | nil => exact ⟨69, k, by simp only [encs, List.nil_append], by unfold letHd; decide, by decide⟩
      | cons t2 ts2 =>
        have hrt := hr t2 (by simp)
        have hkt := hk t2 (by simp)
        cases hrt with
        | bound _ c nm n fl p bd hp kp _ _ =>
          obtain ⟨c, l, e, h'⟩ := path_head (idw := idW) hp kp
          refine ⟨c, _, by simp only [enc, encs]; rw [e]; rfl, h'.type.let, ?_⟩
          unfold pathHd at h'; omega
        | _ => exact absurd hkt (by simp [RT.kd])
    obtain ⟨c2, l2, e2, hd2, hc2⟩ := hnext
    rw [sizes] at hsz
    rw [bndsL] at hroom
    rw [encs] at hT
    rw [List.length_append] at hT
    have h1 := (hc t (by simp) b lb sk off T [] (encs idW ts ++ (69 :: k)) (hr t (by simp)) hb hlb hsk (by omega) hroom.left (by simp; omega) (by rw [e2]; exact Sep.let hd2)).bound (hk t (by simp)) c2 l2 e2 hc2 hd2 rfl
    have h2 := ih (fun x hx => hc x (List.mem_cons_of_mem _ hx)) (off + (enc idW t).length) T k (fun x hx => hr x (List.mem_cons_of_mem _ hx)) (fun x hx => hk x (List.mem_cons_of_mem _ hx)) hb hlb hsk (by omega) hroom.right (by omega)
    rw [encs, txtsT, List.append_assoc, e1, List.cons_append]
    refine Trs.cons c _ _ _ _ _ (by unfold pathHd at hd1; omega) ?_ h2
    rw [e1] at h1
    simpa using h1

/-- A binder, or none. -/
theorem binder_all (lb n : Nat) (sk : Bool) (c : UInt8) (k : List UInt8) (hc : c.toNat ≠ 71) (hroom : n ≠ 0 → lb + n < (c :: k).length) (hs : sk = false → lb + n ≤ 25) : SaysL 120 #[] lb (lb + n) sk (binder n ++ (c :: k)) (c :: k) (binderText lb n) T0 := by
  by_cases h : n = 0
  · subst h
    have := binder_none lb sk c k (by rw [bne_iff_ne]; omega)
    simpa [binder, binderText] using this
  · have := binder_some lb (n - 1) n (by omega) sk (c :: k) (binderText lb n) (hroom h) hs rfl
    simpa [binder, h] using this

theorem txts_s_bound (lb : Nat) (ts : List RT) (h : ∀ t ∈ ts, t.kd = 17) : txts .s lb ts = txtsT lb ts := by
  induction ts with
  | nil => simp [txts, txtsT]
  | cons t ts ih =>
    rw [txts, txtsT, ih fun x hx => h x (List.mem_cons_of_mem _ hx)]
    have := h t (by simp)
    cases t with
    | mk kd c nm n fl ks =>
      have h17 : kd = 17 := this
      subst h17
      simp [txt]

theorem core_dyn {b lb off T : Nat} {sk : Bool} {sp k : List UInt8} (hb : b ≤ 20) (hlb : b ≤ lb) (hsk : sk = false → lb = b) (c : UInt8) (nm : List UInt8) (n : Nat) (fl : Bool) (bs : List RT) (q : RT) (cb : ∀ t ∈ bs, Core t) (hn : b + n ≤ 20) (hne : bs ≠ [])
    (hbs : ∀ t ∈ bs, Rt (b + n) t) (kb : ∀ t ∈ bs, t.kd = 17) (hq : Rt b q) (kq : q.kd = 19)
    (hsz : lb + 20 * size (.mk 16 c nm n fl (bs ++ [q])) ≤ 1000000) (hroom : Roomy T (bnds idW off lb (.mk 16 c nm n fl (bs ++ [q])))) (hT : T ≤ off + ((enc idW (.mk 16 c nm n fl (bs ++ [q]))).length + (sp.length + k.length)))
    (hs : Sep (emp (.mk 16 c nm n fl (bs ++ [q]))) sp k) : Told (.mk 16 c nm n fl (bs ++ [q])) lb sk sp k := by
  cases hq with
  | life _ c' nm' n' fl' hn' =>
    have e00 : enc idW (.mk 19 c' nm' n' fl' []) = 76 :: b62 n' := by simp [enc, lifeCode]
    have e0 : enc idW (.mk 16 c nm n fl (bs ++ [.mk 19 c' nm' n' fl' []])) = 68 :: (binder n ++ (encs idW bs ++ (69 :: 76 :: b62 n'))) := by
      rw [enc]; simp [encsE_snoc, e00]
    have e3 : emp (.mk 16 c nm n fl (bs ++ [.mk 19 c' nm' n' fl' []])) = false := by rw [emp]; simp [empL_snoc, emp]
    rw [e3] at hs
    have hs := hs.nil
    subst hs
    have e1 : enc idW (.mk 16 c nm n fl (bs ++ [.mk 19 c' nm' n' fl' []])) ++ ([] ++ k) = 68 :: (binder n ++ (encs idW bs ++ (69 :: 76 :: (b62 n' ++ k)))) := by rw [e0]; simp
    have e2 : bnds idW off lb (.mk 16 c nm n fl (bs ++ [.mk 19 c' nm' n' fl' []])) = (if n = 0 then [] else [(off + (1 + (binder n).length), lb + n)]) ++ bndsL idW (off + (1 + (binder n).length)) (lb + n) bs := by
      rw [bnds]; simp [bndsE_snoc, bnds]
    have e4 : size (.mk 16 c nm n fl (bs ++ [.mk 19 c' nm' n' fl' []])) = 1 + (sizes bs + 1) := by simp [size, sizes_append, sizes]
    rw [e2] at hroom
    rw [e0] at hT
    rw [e4] at hsz
    simp only [List.length_cons, List.length_append, List.length_nil] at hT
    obtain ⟨c2, l2, h2, hd2⟩ : ∃ c l, encs idW bs ++ (69 :: 76 :: (b62 n' ++ k)) = c :: l ∧ pathHd c := by
      cases bs with
      | nil => exact absurd rfl hne
      | cons t2 ts2 =>
        have hrt := hbs t2 (by simp)
        have hkt := kb t2 (by simp)
        cases hrt with
        | bound _ c nm n fl p bd hp kp _ _ =>
          obtain ⟨c, l, e, h'⟩ := path_head (idw := idW) hp kp
          exact ⟨c, _, by simp only [enc, encs]; rw [e]; rfl, h'⟩
        | _ => exact absurd hkt (by simp [RT.kd])
    have hl2 : (encs idW bs).length + (1 + (1 + ((b62 n').length + k.length))) = (c2 :: l2).length := by rw [← h2]; simp; omega
    have B := binder_all lb n sk c2 l2 (by unfold pathHd at hd2; omega) (fun h0 => by
      have := hroom.left (off + (1 + (binder n).length), lb + n) (by rw [if_neg h0]; simp)
      simp only at this
      omega) (fun e => by have := hsk e; omega)
    rw [← h2] at B
    have R := run_traits bs cb (b + n) (lb + n) sk (off + (1 + (binder n).length)) T (76 :: (b62 n' ++ k)) hbs kb hn (by omega) (fun e => by have := hsk e; omega) (by omega) hroom.right (by simp; omega)
    have hts : txtsT (lb + n) bs ≠ [] := by cases bs with | nil => exact absurd rfl hne | cons a l => simp [txtsT]
    have D := dynBounds_any lb (lb + n) sk _ _ (76 :: (b62 n' ++ k)) (binderText lb n) _ (txtsT (lb + n) bs) B R hts rfl
    have ht : txts .s (lb + n) (bs ++ [.mk 19 c' nm' n' fl' []]) = txtsT (lb + n) bs ++ txts .s (lb + n) [.mk 19 c' nm' n' fl' []] := by rw [txts_append, txts_s_bound _ _ kb]
    have hd1 : (txts .s (lb + n) (bs ++ [.mk 19 c' nm' n' fl' []])).dropLast = txtsT (lb + n) bs := by rw [ht]; simp [txts]
    have hd2 : (txtsT lb (bs ++ [.mk 19 c' nm' n' fl' []])).getLastD [] = lifeText lb n' := by rw [txtsT_append]; simp [txtsT, txt]
    refine told_of_type (by decide : isTypeK 16) (by decide : ¬ isPathK 16) 68 _ e1 (.inr (by decide)) ?_
    by_cases h0 : n' = 0
    · subst h0
      refine type_D0 lb (lb + n) sk _ k _ _ D ?_
      simp only [txt, hd1]
      simp [RT.n]
    · refine type_Dn lb (lb + n) sk _ k _ _ n' h0 (by omega) (by omega) (fun e => by have := hsk e; omega) D ?_
      simp only [txt, hd1, hd2]
      simp [RT.n, h0]
  | _ => exact absurd kq (by simp [RT.kd])
end Go.Proofs.YtidokamjbglkbaaGreatDoor

/- Types of functions: the reader tells them. -/
namespace Go.Proofs.YtidokamjbglkbaaGreatDoor
open Go.RowKit

/-- A plain name that is written is read. -/
theorem undis_id {nm : List UInt8} (hne : nm ≠ []) (hid : ∀ c ∈ nm, isId c) (hl : nm.length ≤ 1000) (k : List UInt8) : Undis (counted' nm ++ k) k nm false := by
  have hs := sep_counted nm k hne
  have := undis_mk nm.length (Lib.decDigits nm.length) (if startsDU nm then [95] else []) (nm ++ k) (dec_ne _) (dec_is10 _) (dec_f10 _) (fun j hj hj2 => by rw [List.getElem_append_left hj2]; exact hid _ (List.getElem_mem hj2)) (by simp) (by omega) hs
  rw [counted']
  simpa using this

/-- An ABI that is not C: as it is written, and as it is read. -/
theorem abi_other {nm : List UInt8} (h : abiB nm = true) (h0 : nm ≠ []) (hC : nm ≠ [67]) : ∃ m : List UInt8, m ≠ [] ∧ (∀ c ∈ m, isId c) ∧ m.length ≤ 20 ∧ (nm.map fun c => if c = 45 then 95 else c) = m ∧ m.map rep = nm := by
  unfold abiB at h
  cases nm with
  | nil => exact absurd rfl h0
  | cons c l =>
    simp only [reduceCtorEq, decide_false, Bool.false_or, decide_eq_false hC, Bool.and_eq_true, decide_eq_true_eq, List.all_eq_true] at h
    obtain ⟨hc, hl, hlen⟩ := h
    have hall : ∀ x ∈ c :: l, (97 ≤ x.toNat ∧ x.toNat ≤ 122) ∨ x.toNat = 45 ∨ (48 ≤ x.toNat ∧ x.toNat ≤ 57) := by
      intro x hx
      rcases List.mem_cons.1 hx with rfl | hx
      · unfold lowB at hc
        simp only [Bool.and_eq_true, decide_eq_true_eq] at hc
        exact .inl hc
      · have := hl x hx
        unfold abiTail lowB at this
        simpa only [Bool.or_eq_true, Bool.and_eq_true, decide_eq_true_eq] using this
    refine ⟨_, by simp, ?_, by simpa using hlen, rfl, ?_⟩
    · intro x hx
      obtain ⟨y, hy, rfl⟩ := List.mem_map.1 hx
      have := hall y hy
      split
      · unfold isId; right; right; right; decide
      · rename_i hne
        unfold isId is10
        have h45 : y.toNat ≠ 45 := fun e => hne (UInt8.toNat_inj.1 e)
        omega
    · rw [List.map_map]
      refine map_id_of fun x hx => ?_
      have := hall x hx
      show rep (if x = 45 then 95 else x) = x
      unfold rep
      split
      · rename_i e; subst e; decide
      · split
        · rename_i _ e; subst e; simp at this
        · rfl

/-- The result of a function. -/
theorem res_all {b lb : Nat} {sk : Bool} {sp k : List UInt8} (r : RT) (hr : Rt b r) (kr : isTypeK r.kd) (hs : Sep (emp r) sp k) (Q : Says 86 #[] lb sk (enc idW r ++ (sp ++ k)) k (txt .t lb r) NS) :
    Res lb sk (enc idW r ++ (sp ++ k)) k (if r.kd = 7 ∧ r.c = 117 then [] else [32, 45, 62, 32] ++ txt .t lb r) := by
  obtain ⟨c, l, e, h⟩ := enc_head (idw := idW) hr
  by_cases hu : c.toNat = 117
  · obtain ⟨h7, hc, hl⟩ := h.u kr hu
    subst hl
    have hc' : c = 117 := UInt8.toNat_inj.1 (by rw [hu]; rfl)
    subst hc'
    have he : emp r = false := by
      cases r with
      | mk kd c nm n fl ks =>
        have h7' : kd = 7 := h7
        subst h7'
        simp [emp]
    rw [he] at hs
    rw [if_pos ⟨h7, hc⟩, e, hs.nil]
    exact Res.u k
  · have hn : ¬ (r.kd = 7 ∧ r.c = 117) := by
      rintro ⟨h7, hc⟩
      refine hu ?_
      cases r with
      | mk kd c2 nm n fl ks =>
        have h7' : kd = 7 := h7
        have hc' : c2 = 117 := hc
        subst h7'; subst hc'
        simp [enc] at e
        rw [← e.1]; rfl
    rw [if_neg hn, e, List.cons_append]
    rw [e, List.cons_append] at Q
    exact Res.t c _ k _ hu Q

theorem core_fn {b lb off T : Nat} {sk : Bool} {sp k : List UInt8} (hb : b ≤ 20) (hlb : b ≤ lb) (hsk : sk = false → lb = b) (c : UInt8) (nm : List UInt8) (n : Nat) (fl : Bool) (ps : List RT) (r : RT) (cp : ∀ t ∈ ps, Core t) (cr : Core r) (hn : b + n ≤ 20) (ha : abiB nm = true)
    (hp : ∀ t ∈ ps, Rt (b + n) t) (kp : ∀ t ∈ ps, isTypeK t.kd) (hr : Rt (b + n) r) (kr : isTypeK r.kd)
    (hsz : lb + 20 * size (.mk 15 c nm n fl (ps ++ [r])) ≤ 1000000) (hroom : Roomy T (bnds idW off lb (.mk 15 c nm n fl (ps ++ [r])))) (hT : T ≤ off + ((enc idW (.mk 15 c nm n fl (ps ++ [r]))).length + (sp.length + k.length)))
    (hs : Sep (emp (.mk 15 c nm n fl (ps ++ [r]))) sp k) : Told (.mk 15 c nm n fl (ps ++ [r])) lb sk sp k := by
  have e0 : enc idW (.mk 15 c nm n fl (ps ++ [r])) = 70 :: (binder n ++ (fnHead idW nm fl ++ (encs idW ps ++ (69 :: enc idW r)))) := by rw [enc]; simp [encsE_snoc]
  have e3 : emp (.mk 15 c nm n fl (ps ++ [r])) = emp r := by rw [emp]; simp [empL_snoc]
  have e1 : enc idW (.mk 15 c nm n fl (ps ++ [r])) ++ (sp ++ k) = 70 :: (binder n ++ (fnHead idW nm fl ++ (encs idW ps ++ (69 :: (enc idW r ++ (sp ++ k)))))) := by rw [e0]; simp
  have e2 : bnds idW off lb (.mk 15 c nm n fl (ps ++ [r])) = (if n = 0 then [] else [(off + (1 + (binder n).length), lb + n)]) ++ (bndsL idW (off + (1 + ((binder n).length + (fnHead idW nm fl).length))) (lb + n) ps ++ bnds idW (off + (1 + ((binder n).length + (fnHead idW nm fl).length)) + (encs idW ps).length + 1) (lb + n) r) := by
    rw [bnds]; simp [bndsE_snoc]
  have e4 : size (.mk 15 c nm n fl (ps ++ [r])) = 1 + (sizes ps + size r) := by simp [size, sizes_append, sizes]
  rw [e2] at hroom
  rw [e0] at hT
  rw [e3] at hs
  rw [e4] at hsz
  simp only [List.length_cons, List.length_append] at hT
  have Q := (cr (b + n) (lb + n) sk _ T sp k hr hn (by omega) (fun e => by have := hsk e; omega) (by omega) hroom.right.right (by omega) hs).type kr
  have RS := res_all r hr kr hs Q
  have R := run_types ps cp (b + n) (lb + n) sk (off + (1 + ((binder n).length + (fnHead idW nm fl).length))) T (enc idW r ++ (sp ++ k)) hp kp hn (by omega) (fun e => by have := hsk e; omega) (by omega) hroom.right.left (by simp; omega)
  obtain ⟨c2, l2, h2, hd2⟩ : ∃ c l, encs idW ps ++ (69 :: (enc idW r ++ (sp ++ k))) = c :: l ∧ (typeHd c ∨ c.toNat = 69) := by
    cases ps with
    | nil => exact ⟨69, _, (by simp only [encs, List.nil_append]; rfl), .inr rfl⟩
    | cons t2 ts2 =>
      obtain ⟨c, l, e, h'⟩ := enc_head (idw := idW) (hp t2 (by simp))
      exact ⟨c, _, by rw [encs, e]; rfl, .inl (h'.type (kp t2 (by simp)))⟩
  have hc85 : c2.toNat ≠ 85 := by unfold typeHd pathHd at hd2; omega
  have hc75 : c2.toNat ≠ 75 := by unfold typeHd pathHd at hd2; omega
  have hc71 : c2.toNat ≠ 71 := by unfold typeHd pathHd at hd2; omega
  have hlen2 : (c2 :: l2).length = (encs idW ps).length + (1 + ((enc idW r).length + (sp.length + k.length))) := by rw [← h2]; simp; omega
  have hroom0 : n ≠ 0 → off + (1 + (binder n).length) + (lb + n) < T := fun h0 => hroom.left (off + (1 + (binder n).length), lb + n) (by rw [if_neg h0]; simp)
  have B : ∀ (x : UInt8) (y : List UInt8), fnHead idW nm fl ++ (c2 :: l2) = x :: y → x.toNat ≠ 71 → SaysL 120 #[] lb (lb + n) sk (binder n ++ (x :: y)) (x :: y) (binderText lb n) T0 := by
    intro x y e hx
    refine binder_all lb n sk x y hx (fun h0 => ?_) (fun e => by have := hsk e; omega)
    have := hroom0 h0
    rw [← e, List.length_append, hlen2]
    omega
  rw [h2] at R e1
  have hx : ∀ t, t = binderText lb n ++ (fnWords nm fl ++ ([102, 110, 40] ++ (joined [44, 32] (txtsT (lb + n) ps) ++ (41 :: (if r.kd = 7 ∧ r.c = 117 then [] else [32, 45, 62, 32] ++ txt .t (lb + n) r))))) → txt .t lb (.mk 15 c nm n fl (ps ++ [r])) = t := by
    intro t ht
    have e5 : (txtsT (lb + n) (ps ++ [r])).dropLast = txtsT (lb + n) ps := by rw [txtsT_append]; simp [txtsT]
    have e6 : (txtsT (lb + n) (ps ++ [r])).getLastD [] = txt .t (lb + n) r := by rw [txtsT_append]; simp [txtsT]
    have e7 : (ps ++ [r]).getLastD default = r := by simp
    rw [ht]
    simp only [txt, e5, e6, e7]
    simp
  refine told_of_type (by decide : isTypeK 15) (by decide : ¬ isPathK 15) 70 _ e1 (.inr (by decide)) (type_F lb (lb + n) sk _ k _ _ ?_ rfl)
  by_cases h0 : nm = []
  · subst h0
    cases fl with
    | false =>
      have e8 : fnHead idW [] false ++ (c2 :: l2) = c2 :: l2 := by simp [fnHead, abiCode]
      rw [e8]
      exact fnSig_00 lb (lb + n) sk _ l2 k _ _ _ c2 _ _ (B c2 l2 e8 hc71) hc85 hc75 R RS (hx _ (by simp [fnWords]))
    | true =>
      have e8 : fnHead idW [] true ++ (c2 :: l2) = 85 :: c2 :: l2 := by simp [fnHead, abiCode]
      rw [e8]
      exact fnSig_U0 lb (lb + n) sk _ l2 k _ _ _ c2 _ _ (B 85 (c2 :: l2) e8 (by decide)) hc85 hc75 R RS (hx _ (by simp [fnWords]))
  · by_cases hC : nm = [67]
    · subst hC
      cases fl with
      | false =>
        have e8 : fnHead idW [67] false ++ (c2 :: l2) = 75 :: 67 :: c2 :: l2 := by simp [fnHead, abiCode]
        rw [e8]
        exact fnSig_0C lb (lb + n) sk _ l2 k _ _ _ c2 _ _ (B 75 (67 :: c2 :: l2) e8 (by decide)) hc85 hc75 R RS (hx _ (by simp [fnWords]))
      | true =>
        have e8 : fnHead idW [67] true ++ (c2 :: l2) = 85 :: 75 :: 67 :: c2 :: l2 := by simp [fnHead, abiCode]
        rw [e8]
        exact fnSig_UC lb (lb + n) sk _ l2 k _ _ _ c2 _ _ (B 85 (75 :: 67 :: c2 :: l2) e8 (by decide)) hc85 hc75 R RS (hx _ (by simp [fnWords]))
    · obtain ⟨m, hm0, hid, hml, hm1, hm2⟩ := abi_other ha h0 hC
      have hidw : idW m = counted' m := by
        unfold idW
        rw [if_neg hm0, if_pos (List.all_eq_true.2 fun c hc => (isIdB_iff c).2 (hid c hc))]
      have U := undis_id hm0 hid (by omega) (c2 :: l2)
      obtain ⟨d, dl, hd, hd10⟩ : ∃ d dl, counted' m = d :: dl ∧ is10 d := by
        obtain ⟨d, dl, e, h⟩ := dec_head m.length
        exact ⟨d, _, by rw [counted', e]; rfl, h⟩
      have hab : abiCode idW nm = 75 :: d :: dl := by
        unfold abiCode
        rw [if_neg h0, if_neg hC, hm1, hidw, hd]
      rw [hd, List.cons_append] at U
      have hd67 : d.toNat ≠ 67 := by unfold is10 at hd10; omega
      cases fl with
      | false =>
        have e8 : fnHead idW nm false ++ (c2 :: l2) = 75 :: d :: (dl ++ (c2 :: l2)) := by simp [fnHead, hab]
        rw [e8]
        exact fnSig_0I lb (lb + n) sk d _ m _ l2 k _ _ _ c2 _ _ (B 75 (d :: (dl ++ (c2 :: l2))) e8 (by decide)) hc85 hc75 R RS hd67 U (by omega) (hx _ (by simp [fnWords, h0, hm2]))
      | true =>
        have e8 : fnHead idW nm true ++ (c2 :: l2) = 85 :: 75 :: d :: (dl ++ (c2 :: l2)) := by simp [fnHead, hab]
        rw [e8]
        exact fnSig_UI lb (lb + n) sk d _ m _ l2 k _ _ _ c2 _ _ (B 85 (75 :: d :: (dl ++ (c2 :: l2))) e8 (by decide)) hc85 hc75 R RS hd67 U (by omega) (hx _ (by simp [fnWords, h0, hm2]))

/-- Every right tree is read as it is written. -/
theorem core_all : ∀ (m : Nat) (t : RT), size t ≤ m → Core t := by
  intro m
  induction m with
  | zero => intro t h; have := size_pos t; omega
  | succ m ih =>
    intro t hm b lb sk off T sp k hr hb hlb hsk hsz hroom hT hs
    have hsub : ∀ kd c nm n fl ks, t = .mk kd c nm n fl ks → ∀ x ∈ ks, Core x := by
      intro kd c nm n fl ks e x hx
      subst e
      refine ih x ?_
      have := size_mem hx
      rw [size] at hm; omega
    cases hr with
    | crate _ c nm n fl hn hnm => exact core_crate c nm n fl hn hnm lb sk sp k (by simpa [emp] using hs)
    | impl _ c nm n fl p t hn hp kp ht kt => exact core_impl hb hlb hsk c nm n fl p t (hsub _ _ _ _ _ _ rfl p (by simp)) (hsub _ _ _ _ _ _ rfl t (by simp)) hn hp kp ht kt hsz hroom hT hs
    | timpl _ c nm n fl p t q hn hp kp ht kt hq kq => exact core_timpl hb hlb hsk c nm n fl p t q (hsub _ _ _ _ _ _ rfl p (by simp)) (hsub _ _ _ _ _ _ rfl t (by simp)) (hsub _ _ _ _ _ _ rfl q (by simp)) hn hp kp ht kt hq kq hsz hroom hT hs
    | tdef _ c nm n fl t q hn ht kt hq kq => exact core_tdef hb hlb hsk c nm n fl t q (hsub _ _ _ _ _ _ rfl t (by simp)) (hsub _ _ _ _ _ _ rfl q (by simp)) ht kt hq kq hsz hroom hT hs
    | nested _ c nm n fl p hn hc hp kp => exact core_nested hb hlb hsk c nm n fl p (hsub _ _ _ _ _ _ rfl p (by simp)) hn hc hp kp hsz hroom hT hs
    | gen _ c nm n fl p gs hn hne hp kp ha ka => exact core_gen hb hlb hsk c nm n fl p gs (hsub _ _ _ _ _ _ rfl p (by simp)) (fun x hx => hsub _ _ _ _ _ _ rfl x (by simp [hx])) hp kp ha ka hsz hroom hT hs
    | basic _ c nm n fl hc => exact core_basic c nm n fl hc hs
    | arr _ c nm n fl t q ht kt hq kq => exact core_arr hb hlb hsk c nm n fl t (hsub _ _ _ _ _ _ rfl t (by simp)) ht kt q (hsub _ _ _ _ _ _ rfl q (by simp)) hq kq hsz hroom hT hs
    | slice _ c nm n fl t ht kt => exact core_slice hb hlb hsk c nm n fl t (hsub _ _ _ _ _ _ rfl t (by simp)) ht kt hsz hroom hT hs
    | tuple _ c nm n fl ts ht kt => exact core_tuple hb hlb hsk c nm n fl ts (fun x hx => hsub _ _ _ _ _ _ rfl x hx) ht kt hsz hroom hT hs
    | ref _ c nm n fl t hn ht kt => exact core_ref hb hlb hsk c nm n fl t (hsub _ _ _ _ _ _ rfl t (by simp)) ht kt hn hsz hroom hT hs
    | «mut» _ c nm n fl t hn ht kt => exact core_mut hb hlb hsk c nm n fl t (hsub _ _ _ _ _ _ rfl t (by simp)) ht kt hn hsz hroom hT hs
    | cptr _ c nm n fl t ht kt => exact core_cptr hb hlb hsk c nm n fl t (hsub _ _ _ _ _ _ rfl t (by simp)) ht kt hsz hroom hT hs
    | mptr _ c nm n fl t ht kt => exact core_mptr hb hlb hsk c nm n fl t (hsub _ _ _ _ _ _ rfl t (by simp)) ht kt hsz hroom hT hs
    | fn _ c nm n fl ps r hn ha _ hp kp hr kr => exact core_fn hb hlb hsk c nm n fl ps r (fun x hx => hsub _ _ _ _ _ _ rfl x (by simp [hx])) (hsub _ _ _ _ _ _ rfl r (by simp)) hn ha hp kp hr kr hsz hroom hT hs
    | dyn _ c nm n fl bs q hn hne hbs kb hq kq => exact core_dyn hb hlb hsk c nm n fl bs q (fun x hx => hsub _ _ _ _ _ _ rfl x (by simp [hx])) hn hne hbs kb hq kq hsz hroom hT hs
    | bound _ c nm n fl p bd hp kp hd kd => exact core_bound hb hlb hsk c nm n fl p bd (hsub _ _ _ _ _ _ rfl p (by simp)) (fun x hx => hsub _ _ _ _ _ _ rfl x (by simp [hx])) hp kp hd kd hsz hroom hT
    | binding _ c nm n fl t hnm ht kt => exact core_binding hb hlb hsk c nm n fl t (hsub _ _ _ _ _ _ rfl t (by simp)) hnm ht kt hsz hroom hT hs
    | life _ c nm n fl hn => exact core_life hb hlb hsk (by omega) c nm n fl hn hs
    | num _ c nm n fl K hK hn => exact core_const c nm n fl K hK hn hs
    | hole _ c nm n fl => exact core_hole c nm n fl hs
theorem told_all {t : RT} {b lb : Nat} {sk : Bool} {off T : Nat} {sp k : List UInt8} (hr : Rt b t) (hb : b ≤ 20) (hlb : b ≤ lb) (hsk : sk = false → lb = b) (hsz : lb + 20 * size t ≤ 1000000) (hroom : Roomy T (bnds idW off lb t)) (hT : T ≤ off + ((enc idW t).length + (sp.length + k.length)))
    (hs : Sep (emp t) sp k) : Told t lb sk sp k := core_all _ t (Nat.le_refl _) b lb sk off T sp k hr hb hlb hsk hsz hroom hT hs
end Go.Proofs.YtidokamjbglkbaaGreatDoor

/- rustHex. -/
namespace Go.Proofs.YtidokamjbglkbaaGreatDoor
open Go.RowKit

theorem hexDig_extract (n : Nat) (h : n < 16) : (⟨#[48, 49, 50, 51, 52, 53, 54, 55, 56, 57, 97, 98, 99, 100, 101, 102]⟩ : ByteArray).extract n (n + 1) = bs [dig16 n] := by
  show (bs [48, 49, 50, 51, 52, 53, 54, 55, 56, 57, 97, 98, 99, 100, 101, 102]).extract n (n + 1) = _
  rw [bs_extract]
  congr 1
  have : n = 0 ∨ n = 1 ∨ n = 2 ∨ n = 3 ∨ n = 4 ∨ n = 5 ∨ n = 6 ∨ n = 7 ∨ n = 8 ∨ n = 9 ∨ n = 10 ∨ n = 11 ∨ n = 12 ∨ n = 13 ∨ n = 14 ∨ n = 15 := by omega
  rcases this with rfl | rfl | rfl | rfl | rfl | rfl | rfl | rfl | rfl | rfl | rfl | rfl | rfl | rfl | rfl | rfl <;> decide
set_option maxHeartbeats 1000000 in
set_option maxRecDepth 100000 in
theorem hex_any (n : Nat) (hn : n < 18446744073709551616) (w : World) : Calls Tryz.prog 43 #[.int .u64 n] w fun e w' => e = .returned (.string (bs (h16 n))) ∧ ∃ m, w' = w.drewN m := by
  induction n using Nat.strongRecOn generalizing w with
  | _ n ih =>
    by_cases h : n < 16
    · have e1 := hexDig_extract n h
      have e2 : h16 n = [dig16 n] := by rw [h16, if_pos h]
      go_enter Tryz.func43, Tryz.ntmps43
      go_wp2
      go_ret
      refine ⟨?_, 0, rfl⟩
      rw [e2]
      rfl
    · have hd : decide ((n : Int) < 16) = false := by simp; omega
      have IH : ∀ w : World, Calls Tryz.prog 43 #[.int .u64 ((n : Int) / 16)] w fun e w' => e = .returned (.string (bs (h16 (n / 16)))) ∧ ∃ m, w' = w.drewN m := by
        intro w
        have := ih (n / 16) (by omega) (by omega) w
        rwa [show ((n / 16 : Nat) : Int) = (n : Int) / 16 by simp] at this
      have e1 := hexDig_extract (n % 16) (by omega)
      have e2 : h16 n = h16 (n / 16) ++ [dig16 (n % 16)] := by rw [h16, if_neg h]
      have q : IntKind.u64.wrap ((n : Int) / 16) = (n : Int) / 16 := IntWalk.u64_in _ (by omega)
      have q2 : IntKind.u64.wrap ((n : Int) % 16) = (n : Int) % 16 := IntWalk.u64_in _ (by omega)
      have q3 : IntKind.u64.wrap ((n : Int) % 16 + 1) = (n : Int) % 16 + 1 := IntWalk.u64_in _ (by omega)
      have q4 : ((n : Int) % 16).toNat = n % 16 := by omega
      have q5 : ((n : Int) % 16 + 1).toNat = n % 16 + 1 := by omega
      have q8 : (n : Int).tmod 16 = (n : Int) % 16 := IntWalk.rem_in _ _ (by omega)
      have q9 : (n : Int) % 16 ≤ (n : Int) % 16 + 1 := by omega
      have q10 : (n : Int) % 16 + 1 ≤ 16 := by omega
      have hl1 := h16_len (n / 16) 15 (by omega)
      have hl2 : (h16 (n / 16)).length + 1 ≤ maxLen := by unfold maxLen; omega
      have hl3 : (h16 (n / 16)).length + 1 ≤ 9223372036854775807 := by omega
      have q6 : 0 ≤ (n : Int) % 16 := by omega
      have q7 : (n : Int) % 16 ≤ 15 := by omega
      clear ih h hn
      go_enter Tryz.func43, Tryz.ntmps43
      go_wp2
      go_quiet (first | (go_at_call 43; refine Calls.quiet_of (IH _)))
      go_wp2
      go_ret
      refine ⟨?_, _, rfl⟩
      rw [e2, ← bs_append]
      rfl

theorem conv1 (w : World) (c : UInt8) (v : Int) (hv : v = c.toNat) :
    (convert 39 9 (.slice (some ⟨w.heap.size, 0, none⟩) 1 1)).run Tryz.prog (w.alloc (.cells #[.int .u8 v] 5)) = .ok (.string (bs [c])) (w.alloc (.cells #[.int .u8 v] 5)) := by
  subst hv
  refine run_convert_bytes_back _ _ _ 5 _ 1 [c] Tryz.underlying39 Tryz.underlying5 Tryz.underlying9 ?_
  intro i hi
  match i, hi with
  | 0, _ => simp [Addr.add]

theorem decDigits_le (k : Nat) : ∀ n, n < 10 ^ (k + 1) → (Lib.decDigits n).length ≤ k + 1 := by
  induction k with
  | zero => intro n h; rw [Lib.decDigits_length, Lib.nDigits_small (by simpa using h)]; exact Nat.le_refl _
  | succ k ih =>
    intro n h
    by_cases h1 : n < 10
    · rw [Lib.decDigits_length, Lib.nDigits_small h1]; omega
    · have := ih (n / 10) (by rw [Nat.pow_succ] at h; omega)
      rw [Lib.decDigits_length] at this ⊢
      rw [Lib.nDigits_big h1]; omega
end Go.Proofs.YtidokamjbglkbaaGreatDoor

