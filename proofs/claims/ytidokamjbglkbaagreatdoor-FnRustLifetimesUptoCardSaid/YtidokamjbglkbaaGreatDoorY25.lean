/- Right trees: how long they are, written and told; which bytes are written; where binders stand. Plain. -/
import Derived.Test.YtidokamjbglkbaaGreatDoorY05
import Derived.Test.YtidokamjbglkbaaGreatDoorY14
import Derived.Test.YtidokamjbglkbaaGreatDoorY21
import Derived.Test.YtidokamjbglkbaaGreatDoorY24
import Derived.Test.YtidokamjbglkbaaGreatDoorY04
namespace Go.Proofs.YtidokamjbglkbaaGreatDoor

theorem b62_no46 (n : Nat) : ∀ x ∈ b62 n, x.toNat ≠ 46 := by
  intro x hx
  unfold b62 at hx
  split at hx
  · simp at hx; subst hx; decide
  · rcases List.mem_append.1 hx with hx | hx
    · have := e62_is (n - 1) [] (by simp) x hx
      unfold is62 at this; omega
    · simp at hx; subst hx; decide
theorem dis_no46 (n : Nat) : ∀ x ∈ dis n, x.toNat ≠ 46 := by
  intro x hx
  unfold dis at hx
  split at hx
  · cases hx
  · rcases List.mem_cons.1 hx with rfl | hx
    · decide
    · exact b62_no46 _ x hx
theorem binder_no46 (n : Nat) : ∀ x ∈ binder n, x.toNat ≠ 46 := by
  intro x hx
  unfold binder at hx
  split at hx
  · cases hx
  · rcases List.mem_cons.1 hx with rfl | hx
    · decide
    · exact b62_no46 _ x hx
theorem isId_no46 {x : UInt8} (h : isId x) : x.toNat ≠ 46 := by unfold isId is10 at h; omega
theorem idW_no46 {nm : List UInt8} (h : nameB nm = true ∨ nm = []) : ∀ x ∈ idW nm, x.toNat ≠ 46 := by
  intro x hx
  rcases h with h | rfl
  · exact isId_no46 (idW_id h x hx)
  · simp [idW] at hx
    rcases hx with rfl | rfl <;> decide
theorem idW_len' {nm : List UInt8} (h : nameB nm = true ∨ nm = []) : (idW nm).length ≤ 1009 := by
  rcases h with h | rfl
  · exact idW_len h
  · simp [idW]
theorem pt_no46 {e : Bool} {l : List UInt8} (h : ∀ x ∈ l, x.toNat ≠ 46) : ∀ x ∈ pt e l, x.toNat ≠ 46 := by
  intro x hx
  unfold pt at hx
  split at hx
  · cases hx
  · rcases List.mem_append.1 hx with hx | hx
    · unfold sepOf at hx
      split at hx
      · simp at hx; subst hx; decide
      · cases hx
    · exact h x hx
theorem pt_len (e : Bool) (l : List UInt8) : (pt e l).length ≤ l.length + 1 := by
  unfold pt sepOf
  split
  · simp
  · split <;> simp
theorem nameText_no46 {e : Bool} {nm : List UInt8} (h : nameB nm = true ∨ nm = []) : ∀ x ∈ nameText idW e nm, x.toNat ≠ 46 := by
  unfold nameText
  split
  · exact pt_no46 fun x hx => by simp at hx; subst hx; decide
  · exact pt_no46 (idW_no46 h)
theorem nameText_len {e : Bool} {nm : List UInt8} (h : nameB nm = true ∨ nm = []) : (nameText idW e nm).length ≤ 1010 := by
  unfold nameText
  split
  · have := pt_len e [48]; simp at this; omega
  · have := pt_len e (idW nm); have := idW_len' h; omega
theorem h16_no46' (n : Nat) : ∀ x ∈ h16 n, x.toNat ≠ 46 := by
  intro x hx
  have := h16_is n x hx
  unfold is16 at this; omega
/-- An ABI that is right, as it is written. -/
theorem abi_map {nm : List UInt8} (h : abiB nm = true) (h0 : nm ≠ []) (hC : nm ≠ [67]) : nameB (nm.map fun c => if c = 45 then 95 else c) = true ∧ nm.length ≤ 20 := by
  unfold abiB at h
  cases nm with
  | nil => exact absurd rfl h0
  | cons c l =>
    simp only [reduceCtorEq, decide_false, Bool.false_or, decide_eq_false hC, Bool.and_eq_true, decide_eq_true_eq, List.all_eq_true] at h
    obtain ⟨hc, hl, hlen⟩ := h
    refine ⟨?_, hlen⟩
    unfold nameB
    rw [if_pos]
    · simp at hlen ⊢; omega
    · simp only [Bool.and_eq_true, List.all_eq_true, List.isEmpty_map]
      refine ⟨fun x hx => ?_, rfl⟩
      obtain ⟨y, hy, rfl⟩ := List.mem_map.1 hx
      rw [isIdB_iff]
      have : (97 ≤ y.toNat ∧ y.toNat ≤ 122) ∨ y.toNat = 45 ∨ (48 ≤ y.toNat ∧ y.toNat ≤ 57) := by
        rcases List.mem_cons.1 hy with rfl | hy
        · unfold lowB at hc
          simp only [Bool.and_eq_true, decide_eq_true_eq] at hc
          exact .inl hc
        · have := hl y hy
          unfold abiTail lowB at this
          simpa only [Bool.or_eq_true, Bool.and_eq_true, decide_eq_true_eq] using this
      split
      · unfold isId; right; right; right; decide
      · rename_i hne
        unfold isId is10
        have h45 : y.toNat ≠ 45 := fun e => hne (UInt8.toNat_inj.1 e)
        omega
/-- Bytes that are no dots, n at most. -/
def BB (l : List UInt8) (n : Nat) : Prop := (∀ x ∈ l, x.toNat ≠ 46) ∧ l.length ≤ n
theorem BB.nil {n : Nat} : BB [] n := ⟨fun x h => (by cases h), by simp⟩
theorem BB.cons {c : UInt8} {l : List UInt8} {n m : Nat} (h : BB l n) (hc : c.toNat ≠ 46) (hm : n + 1 ≤ m) : BB (c :: l) m :=
  ⟨fun x hx => by rcases List.mem_cons.1 hx with rfl | hx; exact hc; exact h.1 x hx, by have := h.2; simp; omega⟩
theorem BB.app {l k : List UInt8} {n m q : Nat} (h : BB l n) (h2 : BB k m) (hm : n + m ≤ q) : BB (l ++ k) q :=
  ⟨fun x hx => by rcases List.mem_append.1 hx with hx | hx; exact h.1 x hx; exact h2.1 x hx, by have := h.2; have := h2.2; simp; omega⟩
theorem BB.mono {l : List UInt8} {n m : Nat} (h : BB l n) (hm : n ≤ m) : BB l m := ⟨h.1, Nat.le_trans h.2 hm⟩
theorem bb_dis (n : Nat) (h : n < 4611686018427387904) : BB (dis n) 14 := ⟨dis_no46 n, dis_len n (by omega)⟩
theorem bb_b62 (n : Nat) (h : n < 4611686018427387904) : BB (b62 n) 13 := ⟨b62_no46 n, b62_len n (by omega)⟩
theorem bb_binder (n : Nat) (h : n ≤ 20) : BB (binder n) 14 := by
  unfold binder
  split
  · exact BB.nil
  · exact (bb_b62 (n - 1) (by omega)).cons (by decide) (by omega)
theorem bb_life (n : Nat) (h : n ≤ 20) : BB (lifeCode n) 14 := (bb_b62 n (by omega)).cons (by decide) (by omega)
theorem bb_life0 (n : Nat) (h : n ≤ 20) : BB (if n = 0 then [] else lifeCode n) 14 := by
  split
  · exact BB.nil
  · exact bb_life n h

theorem bb_fnHead {nm : List UInt8} {fl : Bool} (h : abiB nm = true) : BB (fnHead idW nm fl) 1011 := by
  unfold fnHead
  refine BB.app (n := 1) (m := 1010) ?_ ?_ (Nat.le_refl _)
  · cases fl
    · exact BB.nil
    · exact BB.nil.cons (n := 0) (by decide) (Nat.le_refl _)
  · unfold abiCode
    by_cases h0 : nm = []
    · rw [if_pos h0]; exact BB.nil
    · rw [if_neg h0]
      by_cases hC : nm = [67]
      · rw [if_pos hC]
        exact (BB.nil.cons (n := 0) (m := 1) (by decide) (Nat.le_refl _)).cons (by decide) (by omega)
      · rw [if_neg hC]
        have hm := (abi_map h h0 hC).1
        exact BB.cons (n := 1009) ⟨idW_no46 (.inl hm), idW_len hm⟩ (by decide) (by omega)

/-- What is asked of each tree's writing. -/
def EncOk (t : RT) : Prop := BB (enc idW t) (1100 * size t - 1)
theorem encs_ok (ts : List RT) (h : ∀ t ∈ ts, EncOk t) : BB (encs idW ts) (1100 * sizes ts) := by
  induction ts with
  | nil => rw [encs]; exact BB.nil
  | cons t ts ih =>
    have hp := size_pos t
    rw [encs, sizes]
    exact (h t (by simp)).app (ih fun x hx => h x (List.mem_cons_of_mem _ hx)) (by omega)
theorem encsA_ok (ts : List RT) (h : ∀ t ∈ ts, EncOk t) : BB (encsA idW ts) (1100 * sizes ts) := by
  induction ts with
  | nil => rw [encsA]; exact BB.nil
  | cons t ts ih =>
    have hp := size_pos t
    rw [encsA, sizes]
    refine BB.app (n := 1) ?_ ((h t (by simp)).app (ih fun x hx => h x (List.mem_cons_of_mem _ hx)) (Nat.le_refl _)) (by omega)
    unfold argMark
    split
    · exact BB.nil.cons (n := 0) (by decide) (Nat.le_refl _)
    · exact BB.nil
theorem encsE_ok (ts : List RT) (h : ∀ t ∈ ts, EncOk t) : BB (encsE idW ts) (1100 * sizes ts + 1) := by
  induction ts with
  | nil => rw [encsE]; exact BB.nil
  | cons t ts ih =>
    cases ts with
    | nil => have hp := size_pos t; rw [encsE, sizes, sizes]; exact (h t (by simp)).cons (by decide) (by omega)
    | cons u us =>
      have hp := size_pos t
      rw [encsE, sizes]
      exact (h t (by simp)).app (ih fun x hx => h x (List.mem_cons_of_mem _ hx)) (by omega)

theorem enc_ok : ∀ (m : Nat) (t : RT), size t ≤ m → ∀ b, b ≤ 20 → Rt b t → EncOk t := by
  intro m
  induction m with
  | zero => intro t h; have := size_pos t; omega
  | succ m ih =>
    intro t hm b hb hr
    have hsub : ∀ kd c nm n fl ks, t = .mk kd c nm n fl ks → ∀ x ∈ ks, ∀ b, b ≤ 20 → Rt b x → EncOk x := by
      intro kd c nm n fl ks e x hx
      subst e
      refine ih x ?_
      have := size_mem hx
      rw [size] at hm; omega
    unfold EncOk
    cases hr with
    | crate _ c nm n fl hn hnm =>
      simp only [enc, if_true, size, sizes]
      exact ((bb_dis n hn).app ⟨nameText_no46 (.inl hnm), nameText_len (.inl hnm)⟩ (Nat.le_refl _)).cons (by decide) (by omega)
    | impl _ c nm n fl p t hn hp kp ht kt =>
      have K := encs_ok [p, t] (by intro x hx; simp at hx; rcases hx with rfl | rfl; exact hsub _ _ _ _ _ _ rfl _ (by simp) 0 (by omega) hp; exact hsub _ _ _ _ _ _ rfl _ (by simp) b hb ht)
      simp only [enc, if_true, size, Int.reduceEq, if_false]
      exact ((bb_dis n hn).app K (Nat.le_refl _)).cons (by decide) (by omega)
    | timpl _ c nm n fl p t q hn hp kp ht kt hq kq =>
      have K := encs_ok [p, t, q] (by intro x hx; simp at hx; rcases hx with rfl | rfl | rfl; exact hsub _ _ _ _ _ _ rfl _ (by simp) 0 (by omega) hp; exact hsub _ _ _ _ _ _ rfl _ (by simp) b hb ht; exact hsub _ _ _ _ _ _ rfl _ (by simp) b hb hq)
      simp only [enc, if_true, size, Int.reduceEq, if_false]
      exact ((bb_dis n hn).app K (Nat.le_refl _)).cons (by decide) (by omega)
    | tdef _ c nm n fl t q hn ht kt hq kq =>
      have K := encs_ok [t, q] (by intro x hx; simp at hx; rcases hx with rfl | rfl; exact hsub _ _ _ _ _ _ rfl _ (by simp) b hb ht; exact hsub _ _ _ _ _ _ rfl _ (by simp) b hb hq)
      simp only [enc, if_true, size, Int.reduceEq, if_false]
      exact K.cons (by decide) (by omega)
    | nested _ c nm n fl p hn hc hp kp =>
      have K := encs_ok [p] (by intro x hx; simp at hx; subst hx; exact hsub _ _ _ _ _ _ rfl _ (by simp) b hb hp)
      have hc46 : c.toNat ≠ 46 := by
        rcases hc with ⟨h, _⟩ | ⟨rfl | rfl, _⟩
        · unfold lowB at h; simp only [Bool.and_eq_true, decide_eq_true_eq] at h; omega
        · decide
        · decide
      have hnm : nameB nm = true ∨ nm = [] := by
        rcases hc with ⟨_, h⟩ | ⟨_, h⟩
        · exact .inl h
        · exact h
      simp only [enc, if_true, size, Int.reduceEq, if_false]
      have hd := bb_dis n hn
      have P : BB (pt (empL [p]) (dis n)) 15 := ⟨pt_no46 hd.1, by have := pt_len (empL [p]) (dis n); have := hd.2; omega⟩
      exact ((K.app (P.app ⟨nameText_no46 hnm, nameText_len hnm⟩ (Nat.le_refl _)) (Nat.le_refl _)).cons hc46 (Nat.le_refl _)).cons (by decide) (by omega)
    | gen _ c nm n fl p gs hn hne hp kp ha ka =>
      have K := encsA_ok (p :: gs) (by intro x hx; rcases List.mem_cons.1 hx with rfl | hx; exact hsub _ _ _ _ _ _ rfl _ (by simp) b hb hp; exact hsub _ _ _ _ _ _ rfl x (by simp [hx]) b hb (ha x hx))
      simp only [enc, if_true, size, Int.reduceEq, if_false]
      exact (K.app (BB.nil.cons (n := 0) (by decide) (Nat.le_refl _)) (Nat.le_refl _)).cons (by decide) (by omega)
    | basic _ c nm n fl hc =>
      have := basic_low hc
      simp only [enc, if_true, size, sizes, Int.reduceEq, if_false]
      exact BB.nil.cons (n := 0) (by omega) (by omega)
    | arr _ c nm n fl t q ht kt hq kq =>
      have K := encs_ok [t, q] (by intro x hx; simp at hx; rcases hx with rfl | rfl; exact hsub _ _ _ _ _ _ rfl _ (by simp) b hb ht; exact hsub _ _ _ _ _ _ rfl _ (by simp) b hb hq)
      simp only [enc, if_true, size, Int.reduceEq, if_false]
      exact K.cons (by decide) (by omega)
    | slice _ c nm n fl t ht kt =>
      have K := encs_ok [t] (by intro x hx; simp at hx; subst hx; exact hsub _ _ _ _ _ _ rfl _ (by simp) b hb ht)
      simp only [enc, if_true, size, Int.reduceEq, if_false]
      exact K.cons (by decide) (by omega)
    | tuple _ c nm n fl ts ht kt =>
      have K := encs_ok ts (fun x hx => hsub _ _ _ _ _ _ rfl x hx b hb (ht x hx))
      simp only [enc, if_true, size, Int.reduceEq, if_false]
      exact (K.app (BB.nil.cons (n := 0) (by decide) (Nat.le_refl _)) (Nat.le_refl _)).cons (by decide) (by omega)
    | ref _ c nm n fl t hn ht kt =>
      have K := encs_ok [t] (by intro x hx; simp at hx; subst hx; exact hsub _ _ _ _ _ _ rfl _ (by simp) b hb ht)
      simp only [enc, if_true, size, Int.reduceEq, if_false]
      exact ((bb_life0 n (by omega)).app K (Nat.le_refl _)).cons (by decide) (by omega)
    | «mut» _ c nm n fl t hn ht kt =>
      have K := encs_ok [t] (by intro x hx; simp at hx; subst hx; exact hsub _ _ _ _ _ _ rfl _ (by simp) b hb ht)
      simp only [enc, if_true, size, Int.reduceEq, if_false]
      exact ((bb_life0 n (by omega)).app K (Nat.le_refl _)).cons (by decide) (by omega)
    | cptr _ c nm n fl t ht kt =>
      have K := encs_ok [t] (by intro x hx; simp at hx; subst hx; exact hsub _ _ _ _ _ _ rfl _ (by simp) b hb ht)
      simp only [enc, if_true, size, Int.reduceEq, if_false]
      exact K.cons (by decide) (by omega)
    | mptr _ c nm n fl t ht kt =>
      have K := encs_ok [t] (by intro x hx; simp at hx; subst hx; exact hsub _ _ _ _ _ _ rfl _ (by simp) b hb ht)
      simp only [enc, if_true, size, Int.reduceEq, if_false]
      exact K.cons (by decide) (by omega)
    | fn _ c nm n fl ps r hn ha _ hp kp hr kr =>
      have K := encsE_ok (ps ++ [r]) (by intro x hx; rcases List.mem_append.1 hx with h | h; exact hsub _ _ _ _ _ _ rfl x hx _ hn (hp x h); exact hsub _ _ _ _ _ _ rfl x hx _ hn (by simp at h; subst h; exact hr))
      have F := bb_fnHead (nm := nm) (fl := fl) ha
      rw [enc]
      simp only [if_true, size, Int.reduceEq, if_false]
      exact ((bb_binder n (by omega)).app (F.app K (Nat.le_refl _)) (Nat.le_refl _)).cons (by decide) (by omega)
    | dyn _ c nm n fl bs q hn hne hbs kb hq kq =>
      have K := encsE_ok (bs ++ [q]) (by intro x hx; rcases List.mem_append.1 hx with h | h; exact hsub _ _ _ _ _ _ rfl x hx _ hn (hbs x h); exact hsub _ _ _ _ _ _ rfl x hx _ hb (by simp at h; subst h; exact hq))
      rw [enc]
      simp only [if_true, size, Int.reduceEq, if_false]
      exact ((bb_binder n (by omega)).app K (Nat.le_refl _)).cons (by decide) (by omega)
    | bound _ c nm n fl p bd hp kp hd kd =>
      have K := encs_ok (p :: bd) (by intro x hx; rcases List.mem_cons.1 hx with rfl | hx; exact hsub _ _ _ _ _ _ rfl _ (by simp) b hb hp; exact hsub _ _ _ _ _ _ rfl x (by simp [hx]) b hb (hd x hx))
      simp only [enc, if_true, size, Int.reduceEq, if_false]
      exact K.mono (by omega)
    | binding _ c nm n fl t hnm ht kt =>
      have K := encs_ok [t] (by intro x hx; simp at hx; subst hx; exact hsub _ _ _ _ _ _ rfl _ (by simp) b hb ht)
      simp only [enc, if_true, size, Int.reduceEq, if_false]
      exact (BB.app (n := 1009) ⟨idW_no46 (.inl hnm), idW_len' (.inl hnm)⟩ K (Nat.le_refl _)).cons (by decide) (by omega)
    | life _ c nm n fl hn =>
      simp only [enc, if_true, size, sizes, Int.reduceEq, if_false]
      exact (bb_life n (by omega)).mono (by omega)
    | num _ c nm n fl K hK hn =>
      have := kind_low hK
      have HL := h16_len n 15 (by omega)
      simp only [enc, if_true, size, sizes, Int.reduceEq, if_false]
      refine BB.cons (n := 20) ?_ (by omega) (by omega)
      refine BB.app (n := 1) (m := 17) ?_ (BB.app (n := 16) ⟨h16_no46' n, HL⟩ (BB.nil.cons (n := 0) (by decide) (Nat.le_refl _)) (by omega)) (by omega)
      cases fl
      · exact BB.nil
      · exact BB.nil.cons (n := 0) (by decide) (by omega)
    | hole _ c nm n fl =>
      simp only [enc, size, sizes, Int.reduceEq, if_false]
      exact BB.nil.cons (n := 0) (by decide) (by omega)
end Go.Proofs.YtidokamjbglkbaaGreatDoor

/- Right trees: how long their texts are; where binders stand in a greater name. Plain. -/
namespace Go.Proofs.YtidokamjbglkbaaGreatDoor

theorem joined_len (sep : List UInt8) (ts : List (List UInt8)) (n : Nat) (h : (ts.map fun t => t.length + sep.length).sum ≤ n) : (joined sep ts).length ≤ n := by
  have ht : ∀ us : List (List UInt8), (tailText sep us).length = (us.map fun t => t.length + sep.length).sum := by
    intro us
    induction us with
    | nil => simp [tailText]
    | cons u us ih => rw [tailText_cons]; simp [ih]; omega
  cases ts with
  | nil => simp [joined]
  | cons t ts => simp only [joined, List.length_append, ht]; simp at h; omega
theorem tail_len (sep : List UInt8) (ts : List (List UInt8)) : (tailText sep ts).length = (ts.map fun t => t.length + sep.length).sum := by
  induction ts with
  | nil => simp [tailText]
  | cons u us ih => rw [tailText_cons]; simp [ih]; omega

def TxtOk (t : RT) : Prop := ∀ (m : Md) (lb : Nat), (txt m lb t).length + 4 ≤ 1200 * size t
theorem txts_len (ts : List RT) (h : ∀ t ∈ ts, TxtOk t) (m : Md) (lb : Nat) : ((txts m lb ts).map fun t => t.length + 4).sum ≤ 1200 * sizes ts := by
  induction ts with
  | nil => simp [txts, sizes]
  | cons t ts ih =>
    have h1 := h t (by simp) m lb
    have h2 := ih fun x hx => h x (List.mem_cons_of_mem _ hx)
    simp only [txts, sizes, List.map_cons, List.sum_cons]; omega
theorem txtsT_lenS (ts : List RT) (h : ∀ t ∈ ts, TxtOk t) (lb : Nat) : ((txtsT lb ts).map fun t => t.length + 4).sum ≤ 1200 * sizes ts := by
  induction ts with
  | nil => simp [txtsT, sizes]
  | cons t ts ih =>
    have h1 := h t (by simp) .t lb
    have h2 := ih fun x hx => h x (List.mem_cons_of_mem _ hx)
    simp only [txtsT, sizes, List.map_cons, List.sum_cons]; omega
theorem sum_le (k n : Nat) (hk : k ≤ 4) (us : List (List UInt8)) (h : (us.map fun t => t.length + 4).sum ≤ n) : (us.map fun t => t.length + k).sum ≤ n := by
  refine Nat.le_trans ?_ h
  clear h
  induction us with
  | nil => simp
  | cons u us ih => simp only [List.map_cons, List.sum_cons]; omega
theorem flat_le (n : Nat) (us : List (List UInt8)) (h : (us.map fun t => t.length + 4).sum ≤ n) : us.flatten.length ≤ n := by
  have := sum_le 0 n (by omega) us h
  simpa [List.length_flatten] using this
theorem drop_le (k n : Nat) (us : List (List UInt8)) (h : (us.map fun t => t.length + 4).sum ≤ n) : ((us.drop k).map fun t => t.length + 4).sum ≤ n := by
  refine Nat.le_trans ?_ h
  clear h
  induction us generalizing k with
  | nil => simp
  | cons u us ih =>
    cases k with
    | zero => simp
    | succ k => have := ih k; simp only [List.drop_succ_cons, List.map_cons, List.sum_cons]; omega
theorem split_le (n : Nat) (us : List (List UInt8)) (u : List UInt8) (h : ((us ++ [u]).map fun t => t.length + 4).sum ≤ n) : (us.map fun t => t.length + 4).sum + u.length + 4 ≤ n := by
  simp at h; omega
theorem join_le (sep : List UInt8) (n : Nat) (hs : sep.length ≤ 4) (us : List (List UInt8)) (h : (us.map fun t => t.length + 4).sum ≤ n) : (joined sep us).length ≤ n := joined_len _ _ _ (sum_le _ _ hs _ h)
theorem binderText_len (lb n : Nat) (h : n ≤ 20) : (binderText lb n).length ≤ 90 := by
  have := forText_len lb n
  unfold binderText
  split
  · simp
  · simp; omega
theorem fnWords_len {nm : List UInt8} {fl : Bool} (h : abiB nm = true) : (fnWords nm fl).length ≤ 40 := by
  have hU : (if fl then [117, 110, 115, 97, 102, 101, 32] else [] : List UInt8).length ≤ 7 := by split <;> simp
  unfold fnWords
  by_cases h0 : nm = []
  · simp only [h0, if_true, List.append_nil]; omega
  · by_cases hC : nm = [67]
    · simp only [hC, reduceCtorEq, if_false, List.length_append, List.length_cons, List.length_nil]; omega
    · have := (abi_map h h0 hC).2
      simp only [h0, if_false, List.length_append, List.length_cons, List.length_nil]; omega
set_option maxRecDepth 100000 in
theorem enc8_len (a : Nat) : (enc8 a).length ≤ 4 := by
  have h := enc_cases a
  unfold enc8
  rcases h with ⟨_, e⟩ | ⟨_, _, e⟩ | ⟨_, e⟩ | ⟨_, _, _, e⟩ | ⟨_, _, e⟩ <;> (rw [e]; simp)
theorem enc8s_len (L : List Nat) : (L.flatMap enc8).length ≤ 4 * L.length := by
  induction L with
  | nil => simp
  | cons a L ih => have := enc8_len a; rw [List.flatMap_cons, List.length_append, List.length_cons]; omega
theorem name_len {nm : List UInt8} (h : nameB nm = true) : nm.length ≤ 1000 := by
  rcases nameB_cases h with ⟨_, _, hl, _⟩ | ⟨_, hv, hl, hok, _⟩
  · exact hl
  · have h1 := (puny_name hv hl hok).2.2.1
    have := enc8s_len (chars nm)
    rw [h1] at this
    omega
theorem ite_len {p : Prop} [Decidable p] {a b : List UInt8} {n : Nat} (ha : a.length ≤ n) (hb : b.length ≤ n) : (if p then a else b).length ≤ n := by split <;> assumption
theorem nestText_len {c : UInt8} {nm : List UInt8} {n : Nat} (h : nm.length ≤ 1000) (hn : n < 4611686018427387904) : (nestText c nm n).length ≤ 1045 := by
  have hd := decDigits_le 19 n (by omega)
  have h1 : (if c = 67 then [99, 108, 111, 115, 117, 114, 101] else [115, 104, 105, 109] : List UInt8).length ≤ 7 := ite_len (by simp) (by simp)
  have h2 : (if nm = [] then [] else 58 :: nm : List UInt8).length ≤ 1001 := ite_len (by simp) (by simp; omega)
  unfold nestText
  refine ite_len ?_ ?_
  · simp only [List.length_append, List.length_cons, List.length_nil]; omega
  · simp only [List.length_append, List.length_cons, List.length_nil]; omega
theorem basicText_len (c : Nat) : (basicText c).length ≤ 5 := by
  unfold basicText
  repeat refine ite_len (by decide) ?_
  decide

theorem txt_ok : ∀ (m : Nat) (t : RT), size t ≤ m → ∀ b, b ≤ 20 → Rt b t → TxtOk t := by
  intro m
  induction m with
  | zero => intro t h; have := size_pos t; omega
  | succ m ih =>
    intro t hm b hb hr
    have hsub : ∀ kd c nm n fl ks, t = .mk kd c nm n fl ks → ∀ x ∈ ks, ∀ b, b ≤ 20 → Rt b x → TxtOk x := by
      intro kd c nm n fl ks e x hx
      subst e
      refine ih x ?_
      have := size_mem hx
      rw [size] at hm; omega
    have hks : ∀ x ∈ t.ks, TxtOk x := by
      cases hr with
      | crate _ c nm n fl hn hnm => intro x hx; cases hx
      | impl _ c nm n fl p t hn hp kp ht kt =>
        intro x hx; have hx' := hx
        simp [RT.ks] at hx; rcases hx with rfl | rfl
        · exact hsub _ _ _ _ _ _ rfl _ hx' 0 (by omega) hp
        · exact hsub _ _ _ _ _ _ rfl _ hx' b hb ht
      | timpl _ c nm n fl p t q hn hp kp ht kt hq kq =>
        intro x hx; have hx' := hx
        simp [RT.ks] at hx; rcases hx with rfl | rfl | rfl
        · exact hsub _ _ _ _ _ _ rfl _ hx' 0 (by omega) hp
        · exact hsub _ _ _ _ _ _ rfl _ hx' b hb ht
        · exact hsub _ _ _ _ _ _ rfl _ hx' b hb hq
      | tdef _ c nm n fl t q hn ht kt hq kq =>
        intro x hx; have hx' := hx
        simp [RT.ks] at hx; rcases hx with rfl | rfl
        · exact hsub _ _ _ _ _ _ rfl _ hx' b hb ht
        · exact hsub _ _ _ _ _ _ rfl _ hx' b hb hq
      | nested _ c nm n fl p hn hc hp kp => intro x hx; have hx' := hx; simp [RT.ks] at hx; subst hx; exact hsub _ _ _ _ _ _ rfl _ hx' b hb hp
      | gen _ c nm n fl p gs hn hne hp kp ha ka =>
        intro x hx; have hx' := hx
        rcases List.mem_cons.1 hx with rfl | hx
        · exact hsub _ _ _ _ _ _ rfl _ hx' b hb hp
        · exact hsub _ _ _ _ _ _ rfl _ hx' b hb (ha _ hx)
      | basic => intro x hx; cases hx
      | arr _ c nm n fl t q ht kt hq kq =>
        intro x hx; have hx' := hx
        simp [RT.ks] at hx; rcases hx with rfl | rfl
        · exact hsub _ _ _ _ _ _ rfl _ hx' b hb ht
        · exact hsub _ _ _ _ _ _ rfl _ hx' b hb hq
      | slice _ c nm n fl t ht kt => intro x hx; have hx' := hx; simp [RT.ks] at hx; subst hx; exact hsub _ _ _ _ _ _ rfl _ hx' b hb ht
      | tuple _ c nm n fl ts ht kt => intro x hx; exact hsub _ _ _ _ _ _ rfl x hx b hb (ht x hx)
      | ref _ c nm n fl t hn ht kt => intro x hx; have hx' := hx; simp [RT.ks] at hx; subst hx; exact hsub _ _ _ _ _ _ rfl _ hx' b hb ht
      | «mut» _ c nm n fl t hn ht kt => intro x hx; have hx' := hx; simp [RT.ks] at hx; subst hx; exact hsub _ _ _ _ _ _ rfl _ hx' b hb ht
      | cptr _ c nm n fl t ht kt => intro x hx; have hx' := hx; simp [RT.ks] at hx; subst hx; exact hsub _ _ _ _ _ _ rfl _ hx' b hb ht
      | mptr _ c nm n fl t ht kt => intro x hx; have hx' := hx; simp [RT.ks] at hx; subst hx; exact hsub _ _ _ _ _ _ rfl _ hx' b hb ht
      | fn _ c nm n fl ps r hn ha _ hp kp hr kr =>
        intro x hx; have hx' := hx
        rcases List.mem_append.1 hx with hx | hx
        · exact hsub _ _ _ _ _ _ rfl _ hx' _ hn (hp _ hx)
        · simp at hx; subst hx; exact hsub _ _ _ _ _ _ rfl _ hx' _ hn hr
      | dyn _ c nm n fl bs q hn hne hbs kb hq kq =>
        intro x hx; have hx' := hx
        rcases List.mem_append.1 hx with hx | hx
        · exact hsub _ _ _ _ _ _ rfl _ hx' _ hn (hbs _ hx)
        · simp at hx; subst hx; exact hsub _ _ _ _ _ _ rfl _ hx' _ hb hq
      | bound _ c nm n fl p bd hp kp hd kd =>
        intro x hx; have hx' := hx
        rcases List.mem_cons.1 hx with rfl | hx
        · exact hsub _ _ _ _ _ _ rfl _ hx' b hb hp
        · exact hsub _ _ _ _ _ _ rfl _ hx' b hb (hd _ hx)
      | binding _ c nm n fl t hnm ht kt => intro x hx; have hx' := hx; simp [RT.ks] at hx; subst hx; exact hsub _ _ _ _ _ _ rfl _ hx' b hb ht
      | life => intro x hx; cases hx
      | num => intro x hx; cases hx
      | hole => intro x hx; cases hx
    intro md lb
    have S := fun lb => txtsT_lenS t.ks hks lb
    have M := fun md lb => txts_len t.ks hks md lb
    clear ih hm hsub
    cases hr with
    | crate _ c nm n fl hn hnm =>
      have := name_len hnm
      simp only [txt, if_true, size, sizes]; omega
    | impl _ c nm n fl p t hn hp kp ht kt =>
      have := join_le [32, 97, 115, 32] _ (by simp) _ (drop_le 1 _ _ (S lb))
      simp only [RT.ks] at this
      simp only [txt, if_true, size, Int.reduceEq, if_false, List.length_cons, List.length_append, List.length_nil]; omega
    | timpl _ c nm n fl p t q hn hp kp ht kt hq kq =>
      have := join_le [32, 97, 115, 32] _ (by simp) _ (drop_le 1 _ _ (S lb))
      simp only [RT.ks] at this
      simp only [txt, if_true, size, Int.reduceEq, if_false, List.length_cons, List.length_append, List.length_nil]; omega
    | tdef _ c nm n fl t q hn ht kt hq kq =>
      have := join_le [32, 97, 115, 32] _ (by simp) _ (S lb)
      simp only [RT.ks] at this
      simp only [txt, if_true, size, Int.reduceEq, if_false, List.length_cons, List.length_append, List.length_nil]; omega
    | nested _ c nm n fl p hn hc hp kp =>
      have h1 := flat_le _ _ (M (.p md.sep) lb)
      have hnm : nm.length ≤ 1000 := by
        rcases hc with ⟨_, h⟩ | ⟨_, h | rfl⟩
        · exact name_len h
        · exact name_len h
        · simp
      have h2 := nestText_len (c := c) hnm hn
      simp only [RT.ks] at h1
      simp only [txt, if_true, size, Int.reduceEq, if_false, List.length_append]; omega
    | gen _ c nm n fl p gs hn hne hp kp ha ka =>
      have h1 := hks p (by simp [RT.ks]) (.p md.sep) lb
      have h3 := join_le [44, 32] _ (by simp) (txtsT lb gs) (txtsT_lenS gs (fun x hx => hks x (by simp [RT.ks, hx])) lb)
      have h6 : (if md.sep then [58, 58] else [] : List UInt8).length ≤ 2 := by split <;> simp
      cases md
      all_goals
        simp only [Md.sep] at h1 h6
        simp only [txt, txts, txtsT, Md.sep, List.headD_cons, List.drop_succ_cons, List.drop_zero, if_true, size, sizes, Int.reduceEq, if_false, List.length_cons, List.length_append, List.length_nil]; omega
    | basic _ c nm n fl hc =>
      have := basicText_len c.toNat
      simp only [txt, if_true, size, sizes, Int.reduceEq, if_false]; omega
    | arr _ c nm n fl t q ht kt hq kq =>
      have := join_le [59, 32] _ (by simp) _ (S lb)
      simp only [RT.ks] at this
      simp only [txt, if_true, size, Int.reduceEq, if_false, List.length_cons, List.length_append, List.length_nil]; omega
    | slice _ c nm n fl t ht kt =>
      have h1 := flat_le _ _ (S lb)
      simp only [RT.ks] at h1
      simp only [txt, if_true, size, Int.reduceEq, if_false, List.length_cons, List.length_append, List.length_nil]; omega
    | tuple _ c nm n fl ts ht kt =>
      have := join_le [44, 32] _ (by simp) _ (S lb)
      have h2 : (if ts.length = 1 then [44] else [] : List UInt8).length ≤ 1 := by split <;> simp
      simp only [RT.ks] at this
      simp only [txt, if_true, size, Int.reduceEq, if_false, List.length_cons, List.length_append, List.length_nil]; omega
    | ref _ c nm n fl t hn ht kt =>
      have h1 := flat_le _ _ (S lb)
      simp only [RT.ks] at h1
      have h2 : (if n = 0 then [] else lifeText lb n ++ [32] : List UInt8).length ≤ 3 := by
        split
        · simp
        · rw [List.length_append, lifeText_len]; simp
      simp only [txt, if_true, size, Int.reduceEq, if_false, List.length_cons, List.length_append, List.length_nil]; omega
    | «mut» _ c nm n fl t hn ht kt =>
      have h1 := flat_le _ _ (S lb)
      simp only [RT.ks] at h1
      have h2 : (if n = 0 then [] else lifeText lb n ++ [32] : List UInt8).length ≤ 3 := by
        split
        · simp
        · rw [List.length_append, lifeText_len]; simp
      simp only [txt, if_true, size, Int.reduceEq, if_false, List.length_cons, List.length_append, List.length_nil]; omega
    | cptr _ c nm n fl t ht kt =>
      have h1 := flat_le _ _ (S lb)
      simp only [RT.ks] at h1
      simp only [txt, if_true, size, Int.reduceEq, if_false, List.length_cons, List.length_append, List.length_nil]; omega
    | mptr _ c nm n fl t ht kt =>
      have h1 := flat_le _ _ (S lb)
      simp only [RT.ks] at h1
      simp only [txt, if_true, size, Int.reduceEq, if_false, List.length_cons, List.length_append, List.length_nil]; omega
    | fn _ c nm n fl ps r hn ha _ hp kp hr kr =>
      have hB := binderText_len lb n (by omega)
      have hF := fnWords_len (nm := nm) (fl := fl) ha
      have h1 := join_le [44, 32] _ (by simp) (txtsT (lb + n) ps) (txtsT_lenS ps (fun x hx => hks x (by simp [RT.ks, hx])) (lb + n))
      have h2 := hks r (by simp [RT.ks]) .t (lb + n)
      have e5 : (txtsT (lb + n) (ps ++ [r])).dropLast = txtsT (lb + n) ps := by rw [txtsT_append]; simp [txtsT]
      have e6 : (txtsT (lb + n) (ps ++ [r])).getLastD [] = txt .t (lb + n) r := by rw [txtsT_append]; simp [txtsT]
      have h3 : (if ((ps ++ [r]).getLastD default).kd = 7 ∧ ((ps ++ [r]).getLastD default).c = 117 then [] else [32, 45, 62, 32] ++ txt .t (lb + n) r : List UInt8).length ≤ 4 + (txt .t (lb + n) r).length := by
        split
        · simp
        · simp; omega
      simp only [txt, if_true, size, Int.reduceEq, if_false, e5, e6, List.length_cons, List.length_append, List.length_nil, sizes_append, sizes]
      omega
    | dyn _ c nm n fl bs q hn hne hbs kb hq kq =>
      have hB := binderText_len lb n (by omega)
      have h1 := join_le [32, 43, 32] _ (by simp) (txts .s (lb + n) bs) (txts_len bs (fun x hx => hks x (by simp [RT.ks, hx])) .s (lb + n))
      have h2 := hks q (by simp [RT.ks]) .t lb
      have e5 : (txts .s (lb + n) (bs ++ [q])).dropLast = txts .s (lb + n) bs := by rw [txts_append]; simp [txts]
      have e6 : (txtsT lb (bs ++ [q])).getLastD [] = txt .t lb q := by rw [txtsT_append]; simp [txtsT]
      have h3 : (if ((bs ++ [q]).getLastD default).n = 0 then [] else [32, 43, 32] ++ txt .t lb q : List UInt8).length ≤ 3 + (txt .t lb q).length := by
        split
        · simp
        · simp; omega
      simp only [txt, if_true, size, Int.reduceEq, if_false, e5, e6, List.length_cons, List.length_append, List.length_nil, sizes_append, sizes]
      omega
    | bound _ c nm n fl p bd hp kp hd kd =>
      have h1 := hks p (by simp [RT.ks]) .s lb
      have h2 := txtsT_lenS bd (fun x hx => hks x (by simp [RT.ks, hx])) lb
      have h3 := join_le [44, 32] _ (by simp) (txtsT lb bd) h2
      have h4 : (tailText [44, 32] (txtsT lb bd)).length ≤ 1200 * sizes bd := by rw [tail_len]; exact sum_le 2 _ (by omega) _ h2
      have h5 : (if ((p :: bd).headD default).kd = 6 then tailText [44, 32] (txtsT lb bd) ++ [62] else if (p :: bd).length ≤ 1 then [] else 60 :: (joined [44, 32] (txtsT lb bd) ++ [62]) : List UInt8).length ≤ 1200 * sizes bd + 2 := by
        split
        · simp; omega
        · split
          · simp
          · simp; omega
      simp only [List.headD_cons] at h5
      simp only [txt, txts, txtsT, List.headD_cons, List.drop_succ_cons, List.drop_zero, if_true, size, sizes, Int.reduceEq, if_false, List.length_append]
      refine Nat.le_trans (Nat.add_le_add_right (Nat.add_le_add_left h5 _) 4) ?_
      omega
    | binding _ c nm n fl t hnm ht kt =>
      have h1 := flat_le _ _ (S lb)
      have h2 := name_len hnm
      simp only [RT.ks] at h1
      simp only [txt, if_true, size, Int.reduceEq, if_false, List.length_cons, List.length_append, List.length_nil]; omega
    | life _ c nm n fl hn =>
      simp only [txt, if_true, size, sizes, Int.reduceEq, if_false, lifeText_len]; omega
    | num _ c nm n fl K hK hn =>
      have hd := decDigits_le 19 n (by omega)
      have h1 : (negText fl).length ≤ 1 := by cases fl <;> simp [negText]
      have h2 : (constText (constKind c.toNat) n).length ≤ 20 := by
        unfold constText
        split
        · split <;> simp
        · split
          · simp
          · exact hd
      simp only [txt, if_true, size, sizes, Int.reduceEq, if_false, List.length_append]; omega
    | hole _ c nm n fl =>
      simp only [txt, size, sizes, Int.reduceEq, if_false, List.length_cons, List.length_nil]; omega

/-- Binders in a greater name. -/
def shift (d : Nat) (l : List (Nat × Nat)) : List (Nat × Nat) := l.map fun p => (p.1 + d, p.2)
theorem shift_append (d : Nat) (l m : List (Nat × Nat)) : shift d (l ++ m) = shift d l ++ shift d m := by simp [shift]
mutual
theorem bnds_shift (d off lb : Nat) : (t : RT) → bnds idW (off + d) lb t = shift d (bnds idW off lb t)
  | .mk kd c nm n fl ks => by
    have L := fun o lb => bndsL_shift d o lb ks
    have A := fun o lb => bndsA_shift d o lb ks
    have E := fun o lb => bndsE_shift d o lb ks
    have c1 : ∀ x, off + d + x = off + x + d := fun x => by omega
    rw [bnds, bnds]
    simp only [c1, L, A, E]
    repeat' split
    all_goals simp [shift]
theorem bndsL_shift (d off lb : Nat) : (ks : List RT) → bndsL idW (off + d) lb ks = shift d (bndsL idW off lb ks)
  | [] => by simp [bndsL, shift]
  | k :: ks => by
    have c1 : ∀ x, off + d + x = off + x + d := fun x => by omega
    rw [bndsL, bndsL, shift_append, bnds_shift d off lb k, c1, bndsL_shift d _ lb ks]
theorem bndsA_shift (d off lb : Nat) : (ks : List RT) → bndsA idW (off + d) lb ks = shift d (bndsA idW off lb ks)
  | [] => by simp [bndsA, shift]
  | k :: ks => by
    have c1 : ∀ x, off + d + x = off + x + d := fun x => by omega
    rw [bndsA, bndsA, shift_append, c1, c1, bnds_shift d _ lb k, bndsA_shift d _ lb ks]
theorem bndsE_shift (d off lb : Nat) : (ks : List RT) → bndsE idW (off + d) lb ks = shift d (bndsE idW off lb ks)
  | [] => by simp [bndsE, shift]
  | [k] => by
    have c1 : ∀ x, off + d + x = off + x + d := fun x => by omega
    rw [bndsE, bndsE, c1, bnds_shift d _ lb k]
  | k :: k2 :: ks => by
    have c1 : ∀ x, off + d + x = off + x + d := fun x => by omega
    rw [bndsE, bndsE, shift_append, c1, bnds_shift d off lb k, bndsE_shift d _ lb (k2 :: ks)]
end
end Go.Proofs.YtidokamjbglkbaaGreatDoor

/- IdWritten. -/
namespace Go.Proofs.YtidokamjbglkbaaGreatDoor
open Go.RowKit

set_option maxHeartbeats 4000000 in
set_option maxRecDepth 100000 in
/-- A name that may be written, written. -/
theorem written_any (l : List UInt8) (hl : nameB l = true) (B : Nat) (w : World) (hT : Tabs B w) (hB : B ≤ w.heap.size) :
    Calls Tryz.prog 67 #[.string (bs l)] w fun e w' => e = .returned (.string (bs (idW l))) ∧ Below w.heap.size w w' := by
  have hlen := name_len hl
  have hne := nameB_ne hl
  have ht0 : (bs l).toList.isEmpty = false := by rw [ByteArray.toList_eq]; cases l with | nil => exact absurd rfl hne | cons a b => rfl
  have HP := Lib.hid (fun w => idPlain_any l (by omega) w)
  have HT := Lib.hid hT
  rcases nameB_cases hl with ⟨_, hid, _, e⟩ | ⟨_, hv, hc60, hok, e⟩
  · have hall : l.all isIdB = true := List.all_eq_true.2 fun c hc => (isIdB_iff c).2 (hid c hc)
    have HC := Lib.hid (counted_any l (by omega) B w hT)
    rw [e]
    clear hid e hl hT
    go_enter Tryz.func67, Tryz.ntmps67
    go_wp2_with (first
      | (go_at_call 79; refine (HP.out _).mono ?_; rintro e w1 ⟨rfl, rfl⟩; rw [hall])
      | (go_at_call 80; refine HC.out.mono ?_; rintro e w1 ⟨rfl, b1⟩))
    go_ret
    exact ⟨rfl, b1⟩
  · have hall : l.all isIdB = false := by
      cases h : l.all isIdB with
      | false => rfl
      | true =>
        unfold idW at e
        rw [if_neg hne, if_pos h] at e
        obtain ⟨c, k, e1, hc⟩ := dec_head l.length
        unfold counted' at e
        rw [e1] at e
        simp at e
        unfold is10 at hc
        have := congrArg UInt8.toNat e.1
        simp at this
        omega
    obtain ⟨hpid, hpl, hback, _⟩ := puny_name hv hc60 hok
    have hsc := (chars_back l.length l (Nat.le_refl _) hv).2
    rw [e]
    have HCH := Lib.hid (chars_any l (by omega) B w hT)
    obtain ⟨L, hL⟩ : ∃ L, chars l = L := ⟨_, rfl⟩
    rw [hL] at hc60 hsc HCH hpl ⊢
    obtain ⟨pn, hpn⟩ : ∃ pn, punyOf L = pn := ⟨_, rfl⟩
    rw [hpn] at hpl ⊢
    have HPN := Lib.hid (fun g cap w' (hR : RowAt w' g L) => puny_any g cap L hc60 hsc w' hR)
    rw [hpn] at HPN
    have HC := Lib.hid (fun w' (hT : Tabs B w') => counted_any pn (by omega) B w' hT)
    have hcl := counted_len pn (by omega)
    obtain ⟨cn, hcn⟩ : ∃ cn, counted' pn = cn := ⟨_, rfl⟩
    rw [hcn] at HC hcl ⊢
    have e5 : (⟨#[117]⟩ : ByteArray) ++ bs cn = bs (117 :: cn) := bs_append [117] _
    have hl1 : ¬ 9223372036854775807 < 1 + cn.length := by omega
    have HV := Lib.hid hv
    have hL0 : 0 < L.length := by
      rw [← hL, chars_step l hne]; simp
    have HBW := Lib.hid hB
    clear hpid hback hok e hsc hL hpn hcn hl hv hT
    go_enter Tryz.func67, Tryz.ntmps67
    go_wp2_with (first
      | (go_at_call 79; refine (HP.out _).mono ?_; rintro e w1 ⟨rfl, rfl⟩; rw [hall])
      | (go_at_call 69; refine HCH.out.mono ?_; rintro e w1 ⟨b1, _, hyes⟩; obtain ⟨v, rfl, own⟩ := hyes HV.out; obtain ⟨xa, xc, rfl, hxa⟩ := own_slice own; obtain ⟨g, rfl⟩ := hxa hL0; have hrow := Lib.hid (RowAt.of_own own); clear hyes own)
      | (go_at_call 81; refine (HPN.out g xc _ hrow.out).mono ?_; rintro e w2 ⟨rfl, q, rfl⟩))
    have hT1 : Tabs B (w1.drewN q) := HT.out.same fun k hk => b1.block k (by have := HBW.out; omega)
    refine (HC.out _ hT1).mono ?_
    rintro e w3 ⟨rfl, b3⟩
    have b4 : Below w.heap.size w w3 := b1.trans ((show Below w1.heap.size w1 w3 from ⟨b3.os, b3.tape, b3.output, b3.size, b3.block⟩).mono b1.size)
    go_wp2_with fail
    go_ret
    exact ⟨congrArg (fun b => Ending.returned (.string b)) e5, b4⟩
end Go.Proofs.YtidokamjbglkbaaGreatDoor

