/- Every right tree is written as it is encoded. -/
import Derived.Test.YtidokamjbglkbaaGreatDoorY29
import Derived.Test.YtidokamjbglkbaaGreatDoorY22
import Derived.Test.YtidokamjbglkbaaGreatDoorY25
import Derived.Test.YtidokamjbglkbaaGreatDoorY05
import Derived.Test.YtidokamjbglkbaaGreatDoorY20
namespace Go.Proofs.YtidokamjbglkbaaGreatDoor
open Go.RowKit

theorem counted_body {B b : Nat} {r : WR} {t : RT} {w : World} (h : Wr B b (counted (fun r => r.body t) r) w) : Wr B b (r.tree t) w := by
  have hs := size_pos t
  have e : r.tree t = { counted (fun r => r.body t) r with cnt := r.cnt + size t } := by
    unfold counted
    split <;> rfl
  rw [e]
  refine h.mono ?_
  unfold counted WR.body
  split
  · dsimp only; omega
  · dsimp only; omega
/-- piece, out of what write does. -/
theorem piece_of (t : RT) (s : Nat) (hs : 1100 * size t ≤ s) (he : EncL t)
    (hb : ∀ (M B b : Nat) (r : WR) (w : World) (kd : Int) (c : UInt8) (nm : List UInt8) (n : Nat) (fl : Bool) (kv : Value), TreeAt M B w (rv kd c nm n fl kv) t → Wr B b r w → roomy r s →
      Calls Tryz.prog 30 #[.pointer (some ⟨b, 0, none⟩), .agg (rv kd c nm n fl kv)] w (WrP B b (r.body t) w)) : PieceN t s := by
  intro M B b r w kd c nm n fl kv hT h hr
  have hp := size_pos t
  have hr' := hr
  unfold roomy at hr
  unfold EncL at he
  refine (piece_any kd c nm n fl kv (fun B w => TreeAt M B w (rv kd c nm n fl kv) t) (fun r => r.body t) (s + 100000000) ⟨fun B w w' h1 h2 => h1.mono (Nat.le_refl _) fun k hk => h2.block k hk, fun B B' w h1 h2 => h1.mono h2 fun _ _ => rfl⟩ ?_ (by omega) ?_ B b r w h hT (by omega) (by omega)).mono ?_
  · intro B b r w h1 h2 h3 h4
    exact hb M B b r w kd c nm n fl kv h2 h1 (by unfold roomy; omega)
  · intro r
    simp only [WR.body, List.length_append]
    omega
  · rintro e w' ⟨rfl, h1, k1⟩
    exact ⟨rfl, counted_body h1, k1⟩
theorem num_body (r : WR) (c : UInt8) (hc : letHd c) (nm : List UInt8) (n : Nat) (fl : Bool) : ((r.put [c]).put (negCode fl)).put (h16 n ++ [95]) = r.body (.mk 20 c nm n fl []) := by
  have e1 : ∀ (r : WR) (l : List UInt8), r.empty = false → r.put l = { r with out := r.out ++ l } := fun r l h => by rw [WR.put_plain r l h]; cases r; simp at h; subst h; rfl
  rw [WR.put_let r hc, e1 _ (negCode fl) rfl, e1 _ (h16 n ++ [95]) rfl]
  simp [WR.body, enc, emp, bnds, size, sizes]
theorem hole_body (r : WR) (c : UInt8) (nm : List UInt8) (n : Nat) (fl : Bool) : r.put [112] = r.body (.mk 21 c nm n fl []) := by
  rw [WR.put_let r (by unfold letHd; decide)]
  simp [WR.body, enc, emp, bnds, size, sizes]

/-- What the writer makes of a right tree. -/
structure Wrote (t : RT) : Prop where
  piece : isTypeK t.kd → PieceW t
  const : isConstK t.kd → PieceN t 1100
  bindg : t.kd = 18 → BindW t
  bound : t.kd = 17 → BoundW t
  arg : isArgK t.kd → ArgW t
theorem encL {b : Nat} {t : RT} (h : Rt b t) (hb : b ≤ 20) : EncL t := by
  have := (enc_ok _ t (Nat.le_refl _) b hb h).2
  unfold EncL
  omega
/-- A piece that is a path or a type. -/
theorem wrote_type {b : Nat} {t : RT} (h : Rt b t) (hb : b ≤ 20) (hk : isTypeK t.kd)
    (hw : ∀ (M B b : Nat) (r : WR) (w : World) (kd : Int) (c : UInt8) (nm : List UInt8) (n : Nat) (fl : Bool) (kv : Value), TreeAt M B w (rv kd c nm n fl kv) t → Wr B b r w → roomy r (1200 * size t) →
      Calls Tryz.prog 30 #[.pointer (some ⟨b, 0, none⟩), .agg (rv kd c nm n fl kv)] w (WrP B b (r.body t) w)) : Wrote t := by
  have hp := (piece_of t (1200 * size t) (by omega) (encL h hb) hw).piece (Nat.le_refl _)
  unfold isTypeK at hk
  exact ⟨fun _ => hp, fun h => by unfold isConstK at h; omega, fun h => by omega, fun h => by omega, fun _ => arg_piece t hp (by omega) (by omega) (by omega)⟩
theorem wrote_const {b : Nat} {t : RT} (h : Rt b t) (hb : b ≤ 20) (hk : isConstK t.kd) (h1 : size t = 1)
    (hw : ∀ (M B b : Nat) (r : WR) (w : World) (kd : Int) (c : UInt8) (nm : List UInt8) (n : Nat) (fl : Bool) (kv : Value), TreeAt M B w (rv kd c nm n fl kv) t → Wr B b r w → roomy r 1100 →
      Calls Tryz.prog 30 #[.pointer (some ⟨b, 0, none⟩), .agg (rv kd c nm n fl kv)] w (WrP B b (r.body t) w)) : Wrote t := by
  have hp := piece_of t 1100 (by omega) (encL h hb) hw
  unfold isConstK at hk
  exact ⟨fun _ => hp.piece (by omega), fun _ => hp, fun h => by omega, fun h => by omega, fun _ => arg_const t hp hk⟩
theorem kw_of {M B : Nat} {w : World} {kd : Int} {c : UInt8} {nm : List UInt8} {n : Nat} {fl : Bool} {kv : Value} {kd' : Int} {c' : UInt8} {nm' : List UInt8} {n' : Nat} {fl' : Bool} {ks : List RT} {b : Nat} {r : WR} (hT : TreeAt M B w (rv kd c nm n fl kv) (.mk kd' c' nm' n' fl' ks)) (h : Wr B b r w) (he : ∀ x ∈ ks, EncL x) (hr : roomy r (1200 * (1 + sizes ks))) :
    kd = kd' ∧ c = c' ∧ nm = nm' ∧ n = n' ∧ fl = fl' ∧ ∃ a m cap V, kv = .slice a m cap ∧ m ≤ cap ∧ cap ≤ maxLen ∧ KW M (B := B) (w.alloc (.cells (rv kd c nm n fl kv) tRu)) a m V ks := by
  obtain ⟨a, m, cap, V, ks', hkv, et, hn, hk, hc, hnm, hm, hV, hTr⟩ := hT.cut
  simp only [RT.mk.injEq] at et
  obtain ⟨rfl, rfl, rfl, rfl, rfl, rfl⟩ := et
  refine ⟨rfl, rfl, rfl, rfl, rfl, a, m, cap, V, hkv, hc.1, hc.2, ?_⟩
  have hs : ∀ k, k < B → (w.alloc (.cells (rv kd' c' nm' n' fl' kv) tRu)).heap[k]? = w.heap[k]? := fun k hk => Below.heap_alloc _ _ _ (by have := h.hB; omega)
  have := len_le_sizes ks
  unfold roomy at hr
  exact ⟨(h.alloc _).hB, hk, hV.mono (Nat.le_refl _) hs, fun i hi => (hTr i hi).mono (Nat.le_refl _) hs, he, by omega⟩

theorem le1200 (t : RT) : 1100 ≤ 1200 * size t := by have := size_pos t; omega
theorem wrote_all : ∀ (s : Nat) (t : RT) (b : Nat), size t ≤ s → Rt b t → b ≤ 20 → Wrote t := by
  intro s
  induction s with
  | zero => intro t b h; have := size_pos t; omega
  | succ s ih =>
    intro t b hs h hb
    have up : ∀ {k : Int}, isPathK k → isTypeK k := fun h => by unfold isPathK at h; unfold isTypeK; omega
    have hh := h
    cases h with
    | crate _ c nm n fl hn hm =>
      refine wrote_type hh hb ⟨by simp [RT.kd], by simp [RT.kd]⟩ ?_
      intro M B b r w kd c' nm' n' fl' kv hT h hr
      obtain ⟨rfl, rfl, rfl, rfl, rfl, a, m, cap, V, rfl, _, _, K⟩ := kw_of hT h (by simp) (hr.le (by simp [size, sizes]))
      exact write_path B b _ w _ _ _ _ _ _ (by decide) (wpath_crate B b r _ _ _ _ _ _ hn hm (h.alloc _) (hr.le (by simp [size, sizes])))
    | impl _ c nm n fl p t hn hp kp ht kt =>
      have wp := ih p 0 (by simp only [size, sizes] at hs; omega) hp (by omega)
      have lp := encL hp (by omega)
      have wt := ih t b (by simp only [size, sizes] at hs; omega) ht hb
      have lt := encL ht hb
      refine wrote_type hh hb (by simp [RT.kd, isTypeK]) ?_
      intro M B b r w kd c' nm' n' fl' kv hT h hr
      have hr := hr.le (show 1200 * (1 + sizes [p, t]) ≤ _ by rw [size]; exact Nat.le_refl _)
      obtain ⟨rfl, rfl, rfl, rfl, rfl, a, m, cap, V, rfl, hc1, hc2, K⟩ := kw_of hT h (fun z hz => by simp only [List.mem_cons, List.not_mem_nil, or_false] at hz; rcases hz with rfl | rfl <;> first | exact lp | exact lt) hr
      exact write_path B b _ w _ _ _ _ _ _ (by decide) (wpath_impl M B b r _ _ _ _ _ _ _ _ _ _ hn (fun z hz => by simp only [List.mem_cons, List.not_mem_nil, or_false] at hz; rcases hz with rfl | rfl <;> first | exact (wp.piece (up kp)) | exact (wt.piece kt)) (h.alloc _) K hr)
    | timpl _ c nm n fl p t q hn hp kp ht kt hq kq =>
      have wp := ih p 0 (by simp only [size, sizes] at hs; omega) hp (by omega)
      have lp := encL hp (by omega)
      have wt := ih t b (by simp only [size, sizes] at hs; omega) ht hb
      have lt := encL ht hb
      have wq := ih q b (by simp only [size, sizes] at hs; omega) hq hb
      have lq := encL hq hb
      refine wrote_type hh hb (by simp [RT.kd, isTypeK]) ?_
      intro M B b r w kd c' nm' n' fl' kv hT h hr
      have hr := hr.le (show 1200 * (1 + sizes [p, t, q]) ≤ _ by rw [size]; exact Nat.le_refl _)
      obtain ⟨rfl, rfl, rfl, rfl, rfl, a, m, cap, V, rfl, hc1, hc2, K⟩ := kw_of hT h (fun z hz => by simp only [List.mem_cons, List.not_mem_nil, or_false] at hz; rcases hz with rfl | rfl | rfl <;> first | exact lp | exact lt | exact lq) hr
      exact write_path B b _ w _ _ _ _ _ _ (by decide) (wpath_timpl M B b r _ _ _ _ _ _ _ _ _ _ hn (fun z hz => by simp only [List.mem_cons, List.not_mem_nil, or_false] at hz; rcases hz with rfl | rfl | rfl <;> first | exact (wp.piece (up kp)) | exact (wt.piece kt) | exact (wq.piece (up kq))) (h.alloc _) K hr)
    | tdef _ c nm n fl t q hn ht kt hq kq =>
      have wt := ih t b (by simp only [size, sizes] at hs; omega) ht hb
      have lt := encL ht hb
      have wq := ih q b (by simp only [size, sizes] at hs; omega) hq hb
      have lq := encL hq hb
      refine wrote_type hh hb (by simp [RT.kd, isTypeK]) ?_
      intro M B b r w kd c' nm' n' fl' kv hT h hr
      have hr := hr.le (show 1200 * (1 + sizes [t, q]) ≤ _ by rw [size]; exact Nat.le_refl _)
      obtain ⟨rfl, rfl, rfl, rfl, rfl, a, m, cap, V, rfl, hc1, hc2, K⟩ := kw_of hT h (fun z hz => by simp only [List.mem_cons, List.not_mem_nil, or_false] at hz; rcases hz with rfl | rfl <;> first | exact lt | exact lq) hr
      exact write_path B b _ w _ _ _ _ _ _ (by decide) (wpath_tdef M B b r _ _ _ _ _ _ _ _ _ _ (fun z hz => by simp only [List.mem_cons, List.not_mem_nil, or_false] at hz; rcases hz with rfl | rfl <;> first | exact (wt.piece kt) | exact (wq.piece (up kq))) (h.alloc _) K hr)
    | nested _ c nm n fl p hn hc hp kp =>
      have hm0 : nameB nm = true ∨ nm = [] := by
        rcases hc with ⟨_, h⟩ | ⟨_, h⟩
        · exact .inl h
        · exact h
      have wp := ih p b (by simp only [size, sizes] at hs; omega) hp hb
      have lp := encL hp hb
      refine wrote_type hh hb (by simp [RT.kd, isTypeK]) ?_
      intro M B b r w kd c' nm' n' fl' kv hT h hr
      have hr := hr.le (show 1200 * (1 + sizes [p]) ≤ _ by rw [size]; exact Nat.le_refl _)
      obtain ⟨rfl, rfl, rfl, rfl, rfl, a, m, cap, V, rfl, hc1, hc2, K⟩ := kw_of hT h (fun z hz => by simp only [List.mem_cons, List.not_mem_nil, or_false] at hz; rw [hz]; exact lp) hr
      exact write_path B b _ w _ _ _ _ _ _ (by decide) (wpath_nested M B b r _ _ _ _ _ _ _ _ _ p (wp.piece (up kp)) hn hm0 (h.alloc _) K hr)
    | gen _ c nm n fl p gs hn has hp kp ha ka =>
      have wp := ih p b (by simp only [size, sizes] at hs; omega) hp hb
      have lp := encL hp hb
      have lg : ∀ z ∈ gs, EncL z := fun z hz => encL (ha z hz) hb
      have lpg : ∀ z ∈ p :: gs, EncL z := by
        intro z hz
        rcases List.mem_cons.1 hz with rfl | hz
        · exact lp
        · exact lg z hz
      have hA : ∀ z ∈ gs, ArgW z := fun z hz => (ih z b (by have := size_mem hz; simp only [size, sizes] at hs; omega) (ha z hz) hb).arg (ka z hz)
      refine wrote_type hh hb (by simp [RT.kd, isTypeK]) ?_
      intro M B b r w kd c' nm' n' fl' kv hT h hr
      have hr := hr.le (show 1200 * (1 + sizes (p :: gs)) ≤ _ by rw [size]; exact Nat.le_refl _)
      obtain ⟨rfl, rfl, rfl, rfl, rfl, a, m, cap, V, rfl, hc1, hc2, K⟩ := kw_of hT h lpg hr
      exact write_path B b _ w _ _ _ _ _ _ (by decide) (wpath_gen M B b r _ _ _ _ _ _ _ _ _ p gs kp (wp.piece (up kp)) has ⟨hc1, hc2⟩ hA (h.alloc _) K hr)
    | basic _ c nm n fl hc =>
      have hl : letHd c := by
        obtain ⟨c0, l0, e0, h0⟩ := enc_head (idw := idW) hh
        simp only [enc] at e0
        have := h0.lt
        simp at e0
        rw [e0.1]; exact this
      refine wrote_type hh hb (by simp [RT.kd, isTypeK]) ?_
      intro M B b r w kd c' nm' n' fl' kv hT h hr
      obtain ⟨rfl, rfl, rfl, rfl, rfl, a, m, cap, V, rfl, _, _, K⟩ := kw_of hT h (by simp) (hr.le (by simp [size, sizes]))
      exact write_plain B b _ w _ _ _ _ _ _ (by decide) (wplain_basic B b r _ _ _ _ _ _ hl (h.alloc _) (hr.le (by simp [size, sizes])))
    | arr _ c nm n fl t k ht kt hk kk =>
      have wt := ih t b (by simp only [size, sizes] at hs; omega) ht hb
      have lt := encL ht hb
      have wk := ih k b (by simp only [size, sizes] at hs; omega) hk hb
      have lk := encL hk hb
      refine wrote_type hh hb (by simp [RT.kd, isTypeK]) ?_
      intro M B b r w kd c' nm' n' fl' kv hT h hr
      have hr := hr.le (show 1200 * (1 + sizes [t, k]) ≤ _ by rw [size]; exact Nat.le_refl _)
      obtain ⟨rfl, rfl, rfl, rfl, rfl, a, m, cap, V, rfl, hc1, hc2, K⟩ := kw_of hT h (fun z hz => by simp only [List.mem_cons, List.not_mem_nil, or_false] at hz; rcases hz with rfl | rfl <;> first | exact lt | exact lk) hr
      exact write_plain B b _ w _ _ _ _ _ _ (by decide) (wplain_arr M B b r _ _ _ _ _ _ _ _ _ _ (fun z hz => by simp only [List.mem_cons, List.not_mem_nil, or_false] at hz; rcases hz with rfl | rfl <;> first | exact (wt.piece kt) | exact ((wk.const kk).piece (by exact le1200 _))) (h.alloc _) K hr)
    | slice _ c nm n fl t ht kt =>
      have wt := ih t b (by simp only [size, sizes] at hs; omega) ht hb
      have lt := encL ht hb
      refine wrote_type hh hb (by simp [RT.kd, isTypeK]) ?_
      intro M B b r w kd c' nm' n' fl' kv hT h hr
      have hr := hr.le (show 1200 * (1 + sizes [t]) ≤ _ by rw [size]; exact Nat.le_refl _)
      obtain ⟨rfl, rfl, rfl, rfl, rfl, a, m, cap, V, rfl, hc1, hc2, K⟩ := kw_of hT h (fun z hz => by simp only [List.mem_cons, List.not_mem_nil, or_false] at hz; rw [hz]; exact lt) hr
      exact write_plain B b _ w _ _ _ _ _ _ (by decide) (wplain_slice M B b r _ _ _ _ _ _ _ _ _ _ (fun z hz => by simp only [List.mem_cons, List.not_mem_nil, or_false] at hz; rw [hz]; exact (wt.piece kt)) (h.alloc _) K hr)
    | tuple _ c nm n fl ts ht kt =>
      have hP : ∀ z ∈ ts, PieceW z := fun z hz => (ih z b (by have := size_mem hz; simp only [size] at hs; omega) (ht z hz) hb).piece (kt z hz)
      have hb0 := hb
      have ht0 := ht
      refine wrote_type hh hb (by simp [RT.kd, isTypeK]) ?_
      intro M B b r w kd c' nm' n' fl' kv hT h hr
      have hr := hr.le (show 1200 * (1 + sizes ts) ≤ _ by rw [size]; exact Nat.le_refl _)
      obtain ⟨rfl, rfl, rfl, rfl, rfl, a, m, cap, V, rfl, hc1, hc2, K⟩ := kw_of hT h (fun z hz => encL (ht z hz) hb) hr
      exact write_plain B b _ w _ _ _ _ _ _ (by decide) (wplain_tuple M B b r _ _ _ _ _ _ _ _ _ _ hP (h.alloc _) K hr)
    | ref _ c nm n fl t hn ht kt =>
      have wt := ih t b (by simp only [size, sizes] at hs; omega) ht hb
      have lt := encL ht hb
      refine wrote_type hh hb (by simp [RT.kd, isTypeK]) ?_
      intro M B b r w kd c' nm' n' fl' kv hT h hr
      have hr := hr.le (show 1200 * (1 + sizes [t]) ≤ _ by rw [size]; exact Nat.le_refl _)
      obtain ⟨rfl, rfl, rfl, rfl, rfl, a, m, cap, V, rfl, hc1, hc2, K⟩ := kw_of hT h (fun z hz => by simp only [List.mem_cons, List.not_mem_nil, or_false] at hz; rw [hz]; exact lt) hr
      exact write_plain B b _ w _ _ _ _ _ _ (by decide) (wplain_ref M B b r _ _ _ _ _ _ _ _ _ _ (by omega) (fun z hz => by simp only [List.mem_cons, List.not_mem_nil, or_false] at hz; rw [hz]; exact (wt.piece kt)) (h.alloc _) K hr)
    | «mut» _ c nm n fl t hn ht kt =>
      have wt := ih t b (by simp only [size, sizes] at hs; omega) ht hb
      have lt := encL ht hb
      refine wrote_type hh hb (by simp [RT.kd, isTypeK]) ?_
      intro M B b r w kd c' nm' n' fl' kv hT h hr
      have hr := hr.le (show 1200 * (1 + sizes [t]) ≤ _ by rw [size]; exact Nat.le_refl _)
      obtain ⟨rfl, rfl, rfl, rfl, rfl, a, m, cap, V, rfl, hc1, hc2, K⟩ := kw_of hT h (fun z hz => by simp only [List.mem_cons, List.not_mem_nil, or_false] at hz; rw [hz]; exact lt) hr
      exact write_plain B b _ w _ _ _ _ _ _ (by decide) (wplain_mut M B b r _ _ _ _ _ _ _ _ _ _ (by omega) (fun z hz => by simp only [List.mem_cons, List.not_mem_nil, or_false] at hz; rw [hz]; exact (wt.piece kt)) (h.alloc _) K hr)
    | cptr _ c nm n fl t ht kt =>
      have wt := ih t b (by simp only [size, sizes] at hs; omega) ht hb
      have lt := encL ht hb
      refine wrote_type hh hb (by simp [RT.kd, isTypeK]) ?_
      intro M B b r w kd c' nm' n' fl' kv hT h hr
      have hr := hr.le (show 1200 * (1 + sizes [t]) ≤ _ by rw [size]; exact Nat.le_refl _)
      obtain ⟨rfl, rfl, rfl, rfl, rfl, a, m, cap, V, rfl, hc1, hc2, K⟩ := kw_of hT h (fun z hz => by simp only [List.mem_cons, List.not_mem_nil, or_false] at hz; rw [hz]; exact lt) hr
      exact write_plain B b _ w _ _ _ _ _ _ (by decide) (wplain_cptr M B b r _ _ _ _ _ _ _ _ _ _ (fun z hz => by simp only [List.mem_cons, List.not_mem_nil, or_false] at hz; rw [hz]; exact (wt.piece kt)) (h.alloc _) K hr)
    | mptr _ c nm n fl t ht kt =>
      have wt := ih t b (by simp only [size, sizes] at hs; omega) ht hb
      have lt := encL ht hb
      refine wrote_type hh hb (by simp [RT.kd, isTypeK]) ?_
      intro M B b r w kd c' nm' n' fl' kv hT h hr
      have hr := hr.le (show 1200 * (1 + sizes [t]) ≤ _ by rw [size]; exact Nat.le_refl _)
      obtain ⟨rfl, rfl, rfl, rfl, rfl, a, m, cap, V, rfl, hc1, hc2, K⟩ := kw_of hT h (fun z hz => by simp only [List.mem_cons, List.not_mem_nil, or_false] at hz; rw [hz]; exact lt) hr
      exact write_plain B b _ w _ _ _ _ _ _ (by decide) (wplain_mptr M B b r _ _ _ _ _ _ _ _ _ _ (fun z hz => by simp only [List.mem_cons, List.not_mem_nil, or_false] at hz; rw [hz]; exact (wt.piece kt)) (h.alloc _) K hr)
    | fn _ c nm n fl ps r hn ha hr0 hp kp hr kr =>
      have hP : ∀ z ∈ ps ++ [r], PieceW z := by
        intro z hz
        rcases List.mem_append.1 hz with hz | hz
        · exact (ih z _ (by have := size_mem hz; simp only [size, sizes_append] at hs; omega) (hp z hz) hn).piece (kp z hz)
        · rw [List.mem_singleton] at hz
          subst hz
          exact (ih z _ (by simp only [size, sizes_append, sizes] at hs; omega) hr hn).piece kr
      have hE : ∀ z ∈ ps ++ [r], EncL z := by
        intro z hz
        rcases List.mem_append.1 hz with hz | hz
        · exact encL (hp z hz) hn
        · rw [List.mem_singleton] at hz
          subst hz
          exact encL hr hn
      refine wrote_type hh hb (by simp [RT.kd, isTypeK]) ?_
      clear hr
      intro M B b r w kd c' nm' n' fl' kv hT h hr
      have hr := hr.le (show 1200 * (1 + sizes _) ≤ _ by rw [size]; exact Nat.le_refl _)
      obtain ⟨rfl, rfl, rfl, rfl, rfl, a, m, cap, V, rfl, hc1, hc2, K⟩ := kw_of hT h hE hr
      refine write_other B b _ w _ _ _ _ _ _ (.inl rfl) ?_
      by_cases h0 : nm' = []
      · cases fl' with
        | false => exact wother_fn_0_0 M B b r _ _ _ _ _ _ _ _ _ _ (by omega) h0 hc1 hP (h.alloc _) K hr
        | true => exact wother_fn_1_0 M B b r _ _ _ _ _ _ _ _ _ _ (by omega) h0 hc1 hP (h.alloc _) K hr
      · cases fl' with
        | false => exact wother_fn_0_1 M B b r _ _ _ _ _ _ _ _ _ _ (by omega) ha h0 hc1 hP (h.alloc _) K hr
        | true => exact wother_fn_1_1 M B b r _ _ _ _ _ _ _ _ _ _ (by omega) ha h0 hc1 hP (h.alloc _) K hr
    | dyn _ c nm n fl gs l hn hb0 hgs kb hl kl =>
      have hP : ∀ z ∈ gs, BoundW z ∧ EncL z := fun z hz => ⟨(ih z _ (by have := size_mem hz; simp only [size, sizes_append] at hs; omega) (hgs z hz) hn).bound (kb z hz), encL (hgs z hz) hn⟩
      have hA : ArgW l := (ih l b (by simp only [size, sizes_append, sizes] at hs; omega) hl hb).arg (.inr (.inl kl))
      have hE : ∀ z ∈ gs ++ [l], EncL z := by
        intro z hz
        rcases List.mem_append.1 hz with hz | hz
        · exact (hP z hz).2
        · rw [List.mem_singleton] at hz
          subst hz
          exact encL hl hb
      refine wrote_type hh hb (by simp [RT.kd, isTypeK]) ?_
      intro M B b r w kd c' nm' n' fl' kv hT h hr
      have hr := hr.le (show 1200 * (1 + sizes _) ≤ _ by rw [size]; exact Nat.le_refl _)
      obtain ⟨rfl, rfl, rfl, rfl, rfl, a, m, cap, V, rfl, hc1, hc2, K⟩ := kw_of hT h hE hr
      exact write_other B b _ w _ _ _ _ _ _ (.inr rfl) (wother_dyn M B b r _ _ _ _ _ _ _ _ _ _ _ (by omega) hc1 (h.alloc _) K.kids K.tree K.len K.small hP hA kl hr)
    | bound _ c nm n fl p bd hp kp hbd kb =>
      have wp := ih p b (by simp only [size, sizes] at hs; omega) hp hb
      exact ⟨fun h => by simp [RT.kd, isTypeK] at h, fun h => by simp [RT.kd, isConstK] at h, fun h => by simp [RT.kd] at h, fun _ => ⟨c, nm, n, fl, p, bd, rfl, wp.piece (up kp), encL hp hb, fun y hy => ⟨(ih y b (by have := size_mem hy; simp only [size, sizes] at hs; omega) (hbd y hy) hb).bindg (kb y hy), encL (hbd y hy) hb⟩⟩, fun h => by simp [RT.kd, isArgK, isTypeK, isConstK] at h⟩
    | binding _ c nm n fl t hm ht kt =>
      have wt := ih t b (by simp only [size, sizes] at hs; omega) ht hb
      exact ⟨fun h => by simp [RT.kd, isTypeK] at h, fun h => by simp [RT.kd, isConstK] at h, fun _ => ⟨c, nm, n, fl, t, rfl, hm, wt.piece kt, encL ht hb⟩, fun h => by simp [RT.kd] at h, fun h => by simp [RT.kd, isArgK, isTypeK, isConstK] at h⟩
    | life _ c nm n fl hn =>
      exact ⟨fun h => by simp [RT.kd, isTypeK] at h, fun h => by simp [RT.kd, isConstK] at h, fun h => by simp [RT.kd] at h, fun h => by simp [RT.kd] at h, fun _ => arg_life c nm n fl (by omega)⟩
    | num _ c nm n fl K hK hn =>
      have hl : letHd c := by have := kind_low hK; unfold letHd; omega
      refine wrote_const hh hb (by simp [RT.kd, isConstK]) (by simp [size, sizes]) ?_
      intro M B b r w kd c' nm' n' fl' kv hT h hr
      obtain ⟨a, m, cap, V, ks', hkv, et, _⟩ := hT.cut
      simp only [RT.mk.injEq] at et
      obtain ⟨rfl, rfl, rfl, rfl, rfl, _⟩ := et
      refine (write_num B b r _ _ _ _ _ hn w h (by unfold roomy at hr; omega)).mono ?_
      rintro e w' ⟨rfl, h1, k1⟩
      exact ⟨rfl, h1.cast (num_body r _ hl _ _ _), k1⟩
    | hole _ c nm n fl =>
      refine wrote_const hh hb (by simp [RT.kd, isConstK]) (by simp [size, sizes]) ?_
      intro M B b r w kd c' nm' n' fl' kv hT h hr
      obtain ⟨a, m, cap, V, ks', hkv, et, _⟩ := hT.cut
      simp only [RT.mk.injEq] at et
      obtain ⟨rfl, rfl, rfl, rfl, rfl, _⟩ := et
      refine (write_hole B b r _ _ _ _ _ w h (by unfold roomy at hr; omega)).mono ?_
      rintro e w' ⟨rfl, h1, k1⟩
      exact ⟨rfl, h1.cast (hole_body r _ _ _ _), k1⟩
end Go.Proofs.YtidokamjbglkbaaGreatDoor

/- Where the binders of a right tree stand: within what is written of it; how many lifetimes are bound there at most. -/
namespace Go.Proofs.YtidokamjbglkbaaGreatDoor

def BIn (off n m : Nat) (l : List (Nat × Nat)) : Prop := ∀ p ∈ l, p.1 ≤ off + n ∧ p.2 ≤ m
theorem BIn.nil {off n m : Nat} : BIn off n m [] := fun _ h => by cases h
theorem BIn.one {off n m p q : Nat} (h1 : p ≤ off + n) (h2 : q ≤ m) : BIn off n m [(p, q)] := fun x h => by rw [List.mem_singleton] at h; subst h; exact ⟨h1, h2⟩
theorem BIn.mono {off n m off' n' m' : Nat} {l : List (Nat × Nat)} (h : BIn off n m l) (e : off + n ≤ off' + n') (e' : m ≤ m') : BIn off' n' m' l := fun p hp => ⟨by have := (h p hp).1; omega, by have := (h p hp).2; omega⟩
theorem BIn.app {off n k : Nat} {l m : List (Nat × Nat)} (h : BIn off n k l) (h' : BIn off n k m) : BIn off n k (l ++ m) := fun p hp => by
  rcases List.mem_append.1 hp with hp | hp
  · exact h p hp
  · exact h' p hp
def TBIn (t : RT) : Prop := ∀ off lb, BIn off (enc idW t).length (lb + 20 * size t) (bnds idW off lb t)
theorem bndsL_in : ∀ (ts : List RT), (∀ t ∈ ts, TBIn t) → ∀ off lb, BIn off (encs idW ts).length (lb + 20 * sizes ts) (bndsL idW off lb ts)
  | [], _, off, lb => by simp only [bndsL]; exact .nil
  | t :: ts, h, off, lb => by
    have h1 := h t (by simp) off lb
    have h2 := bndsL_in ts (fun x hx => h x (List.mem_cons_of_mem _ hx)) (off + (enc idW t).length) lb
    simp only [bndsL, encs, sizes, List.length_append]
    exact (h1.mono (by omega) (by omega)).app (h2.mono (by omega) (by omega))
theorem bndsA_in : ∀ (ts : List RT), (∀ t ∈ ts, TBIn t) → ∀ off lb, BIn off (encsA idW ts).length (lb + 20 * sizes ts) (bndsA idW off lb ts)
  | [], _, off, lb => by simp only [bndsA]; exact .nil
  | t :: ts, h, off, lb => by
    have h1 := h t (by simp) (off + (argMark t.kd).length) lb
    have h2 := bndsA_in ts (fun x hx => h x (List.mem_cons_of_mem _ hx)) (off + ((argMark t.kd).length + (enc idW t).length)) lb
    simp only [bndsA, encsA, sizes, List.length_append]
    exact (h1.mono (by omega) (by omega)).app (h2.mono (by omega) (by omega))
theorem bndsE_in (ps : List RT) (r : RT) (h : ∀ t ∈ ps ++ [r], TBIn t) (off lb : Nat) : BIn off (encsE idW (ps ++ [r])).length (lb + 20 * sizes (ps ++ [r])) (bndsE idW off lb (ps ++ [r])) := by
  rw [bndsE_snoc, encsE_snoc, sizes_append]
  simp only [sizes, List.length_append, List.length_cons]
  have h1 := bndsL_in ps (fun x hx => h x (List.mem_append_left _ hx)) off lb
  have h2 := h r (by simp) (off + (encs idW ps).length + 1) lb
  exact (h1.mono (by omega) (by omega)).app (h2.mono (by omega) (by omega))
theorem bnd_one (off lb n : Nat) (l : Nat) : BIn off (1 + ((binder n).length + l)) (lb + n) (if n = 0 then [] else [(off + (1 + (binder n).length), lb + n)]) := by
  split
  · exact .nil
  · exact .one (by omega) (Nat.le_refl _)

theorem bnds_in : ∀ (m : Nat) (t : RT), size t ≤ m → ∀ b, b ≤ 20 → Rt b t → TBIn t := by
  intro m
  induction m with
  | zero => intro t h; have := size_pos t; omega
  | succ m ih =>
    intro t hm b hb hr
    have H : ∀ kd c nm n fl ks, t = .mk kd c nm n fl ks → (∀ x ∈ ks, ∃ b, b ≤ 20 ∧ Rt b x) → ∀ x ∈ ks, TBIn x := by
      intro kd c nm n fl ks e h x hx
      subst e
      obtain ⟨b', hb', hr'⟩ := h x hx
      exact ih x (by have := size_mem hx; rw [size] at hm; omega) b' hb' hr'
    intro off lb
    cases hr with
    | crate => simp only [bnds]; exact .nil
    | basic => simp only [bnds]; exact .nil
    | life => simp only [bnds]; exact .nil
    | num => simp only [bnds]; exact .nil
    | hole => simp only [bnds]; exact .nil
    | impl _ c nm n fl p t hn hp kp ht kt =>
      have := bndsL_in _ (H _ _ _ _ _ _ rfl (fun x hx => by simp at hx; rcases hx with rfl | rfl; exact ⟨0, by omega, hp⟩; exact ⟨b, hb, ht⟩)) (off + (1 + (dis n).length)) lb
      simp only [bnds, enc, size]
      exact this.mono (by simp; omega) (by omega)
    | timpl _ c nm n fl p t q hn hp kp ht kt hq kq =>
      have := bndsL_in _ (H _ _ _ _ _ _ rfl (fun x hx => by simp at hx; rcases hx with rfl | rfl | rfl; exact ⟨0, by omega, hp⟩; exact ⟨b, hb, ht⟩; exact ⟨b, hb, hq⟩)) (off + (1 + (dis n).length)) lb
      simp only [bnds, enc, size]
      exact this.mono (by simp; omega) (by omega)
    | tdef _ c nm n fl t q hn ht kt hq kq =>
      have := bndsL_in _ (H _ _ _ _ _ _ rfl (fun x hx => by simp at hx; rcases hx with rfl | rfl; exact ⟨b, hb, ht⟩; exact ⟨b, hb, hq⟩)) (off + 1) lb
      simp only [bnds, enc, size]
      exact this.mono (by simp; omega) (by omega)
    | nested _ c nm n fl p hn hc hp kp =>
      have := bndsL_in _ (H _ _ _ _ _ _ rfl (fun x hx => by simp at hx; subst hx; exact ⟨b, hb, hp⟩)) (off + 2) lb
      simp only [bnds, enc, size]
      exact this.mono (by simp; omega) (by omega)
    | gen _ c nm n fl p gs hn has hp kp ha ka =>
      have := bndsA_in _ (H _ _ _ _ _ _ rfl (fun x hx => by rcases List.mem_cons.1 hx with rfl | hx; exact ⟨b, hb, hp⟩; exact ⟨b, hb, ha x hx⟩)) (off + 1) lb
      simp only [bnds, enc, size]
      exact this.mono (by simp; omega) (by omega)
    | arr _ c nm n fl t k ht kt hk kk =>
      have := bndsL_in _ (H _ _ _ _ _ _ rfl (fun x hx => by simp at hx; rcases hx with rfl | rfl; exact ⟨b, hb, ht⟩; exact ⟨b, hb, hk⟩)) (off + 1) lb
      simp only [bnds, enc, size]
      exact this.mono (by simp; omega) (by omega)
    | slice _ c nm n fl t ht kt =>
      have := bndsL_in _ (H _ _ _ _ _ _ rfl (fun x hx => by simp at hx; subst hx; exact ⟨b, hb, ht⟩)) (off + 1) lb
      simp only [bnds, enc, size]
      exact this.mono (by simp; omega) (by omega)
    | cptr _ c nm n fl t ht kt =>
      have := bndsL_in _ (H _ _ _ _ _ _ rfl (fun x hx => by simp at hx; subst hx; exact ⟨b, hb, ht⟩)) (off + 1) lb
      simp only [bnds, enc, size]
      exact this.mono (by simp; omega) (by omega)
    | mptr _ c nm n fl t ht kt =>
      have := bndsL_in _ (H _ _ _ _ _ _ rfl (fun x hx => by simp at hx; subst hx; exact ⟨b, hb, ht⟩)) (off + 1) lb
      simp only [bnds, enc, size]
      exact this.mono (by simp; omega) (by omega)
    | tuple _ c nm n fl ts ht kt =>
      have := bndsL_in _ (H _ _ _ _ _ _ rfl (fun x hx => ⟨b, hb, ht x hx⟩)) (off + 1) lb
      simp only [bnds, enc, size]
      exact this.mono (by simp; omega) (by omega)
    | ref _ c nm n fl t hn ht kt =>
      have := bndsL_in _ (H _ _ _ _ _ _ rfl (fun x hx => by simp at hx; subst hx; exact ⟨b, hb, ht⟩)) (off + (1 + (if n = 0 then [] else lifeCode n).length)) lb
      simp only [bnds, enc, size]
      exact this.mono (by simp; omega) (by omega)
    | «mut» _ c nm n fl t hn ht kt =>
      have := bndsL_in _ (H _ _ _ _ _ _ rfl (fun x hx => by simp at hx; subst hx; exact ⟨b, hb, ht⟩)) (off + (1 + (if n = 0 then [] else lifeCode n).length)) lb
      simp only [bnds, enc, size]
      exact this.mono (by simp; omega) (by omega)
    | fn _ c nm n fl ps r hn ha hr0 hp kp hr kr =>
      have := bndsE_in ps r (H _ _ _ _ _ _ rfl (fun x hx => by rcases List.mem_append.1 hx with hx | hx; exact ⟨_, hn, hp x hx⟩; rw [List.mem_singleton] at hx; subst hx; exact ⟨_, hn, hr⟩)) (off + (1 + ((binder n).length + (fnHead idW nm fl).length))) (lb + n)
      have h1 := bnd_one off lb n ((fnHead idW nm fl).length + (encsE idW (ps ++ [r])).length)
      simp only [bnds, enc, size]
      exact (h1.mono (by simp; omega) (by omega)).app (this.mono (by simp; omega) (by omega))
    | dyn _ c nm n fl gs l hn hb0 hgs kb hl kl =>
      have := bndsE_in gs l (H _ _ _ _ _ _ rfl (fun x hx => by rcases List.mem_append.1 hx with hx | hx; exact ⟨_, hn, hgs x hx⟩; rw [List.mem_singleton] at hx; subst hx; exact ⟨_, hb, hl⟩)) (off + (1 + (binder n).length)) (lb + n)
      have h1 := bnd_one off lb n (encsE idW (gs ++ [l])).length
      simp only [bnds, enc, size]
      exact (h1.mono (by simp; omega) (by omega)).app (this.mono (by simp; omega) (by omega))
    | bound _ c nm n fl p bd hp kp hbd kb =>
      have := bndsL_in _ (H _ _ _ _ _ _ rfl (fun x hx => by rcases List.mem_cons.1 hx with rfl | hx; exact ⟨b, hb, hp⟩; exact ⟨b, hb, hbd x hx⟩)) off lb
      simp only [bnds, enc, size]
      exact this.mono (by simp) (by omega)
    | binding _ c nm n fl t hm ht kt =>
      have := bndsL_in _ (H _ _ _ _ _ _ rfl (fun x hx => by simp at hx; subst hx; exact ⟨b, hb, ht⟩)) (off + (1 + (idW nm).length)) lb
      simp only [bnds, enc, size]
      exact this.mono (by simp; omega) (by omega)
end Go.Proofs.YtidokamjbglkbaaGreatDoor

/- RustRoomy, of a tree by itself. -/
namespace Go.Proofs.YtidokamjbglkbaaGreatDoor
open Go.RowKit

theorem row_slice {w : World} {B s n : Nat} {e : TypeId} {v : Value} {xs : List Value} (h : w.ownsRow B e s v n xs) : ∃ ao co, v = .slice ao n co := by
  rcases h.2 with ⟨hv, h0⟩ | ⟨g, cap, cur, hv, _⟩
  · exact ⟨none, 0, by rw [hv, h0]⟩
  · exact ⟨_, _, hv⟩
theorem bdv_at (l : List (Nat × Nat)) (j : Nat) (hj : j < l.length) : (bdv l)[2 * j]? = some (.int .i64 ((l[j]'hj).1 : Nat)) ∧ (bdv l)[2 * j + 1]? = some (.int .i64 ((l[j]'hj).2 : Nat)) := by
  induction l generalizing j with
  | nil => simp at hj
  | cons p l ih =>
    cases j with
    | zero => simp [bdv]
    | succ j =>
      have := ih j (by simpa using hj)
      have e : bdv (p :: l) = .int .i64 (p.1 : Nat) :: .int .i64 (p.2 : Nat) :: bdv l := rfl
      rw [e]
      simpa [show 2 * (j + 1) = 2 * j + 1 + 1 by omega] using this
theorem bd_cells {w : World} {B : Nat} {v : Value} {l : List (Nat × Nat)} (h : w.ownsRow B tBd 2 v l.length (bdv l)) (j : Nat) (hj : j < l.length) :
    ∃ g co, v = .slice (some ⟨g, 0, none⟩) l.length co ∧ g < w.heap.size ∧ w.cell? ⟨g, j * 2, none⟩ = some (.int .i64 ((l[j]'hj).1 : Nat)) ∧ w.cell? ⟨g, j * 2 + 1, none⟩ = some (.int .i64 ((l[j]'hj).2 : Nat)) := by
  have hc := fun g (hg : v.ownBlock = some g) => h.cells (g := g) hg
  obtain ⟨e1, e2⟩ := bdv_at l j hj
  rcases h.2 with ⟨hv, h0⟩ | ⟨g, cap, cur, hv, _⟩
  · simp at h0; subst h0; simp at hj
  · have hg := hc g (by rw [hv]; rfl)
    have c1 := hg _ _ e1
    have c2 := hg _ _ e2
    rw [Go.WideShapes.add_plain] at c1 c2
    simp only [Nat.zero_add] at c1 c2
    refine ⟨g, _, hv, cell_lt c1, by rw [Nat.mul_comm j 2]; exact c1, by rw [Nat.mul_comm j 2]; exact c2⟩

set_option maxHeartbeats 4000000 in
set_option maxRecDepth 100000 in
theorem rustRoomy_big {M : Nat} (t : RT) (b0 : Nat) (hb : b0 ≤ 20) (hrt : Rt b0 t) (hk : isTypeK t.kd) (hs : size t ≤ 310) (kd : Int) (c : UInt8) (nm : List UInt8) (n : Nat) (fl : Bool) (ks : Value)
    (B : Nat) (w : World) (ht : Tabs B w) (hB : B ≤ w.heap.size) (hp : TreeAt M B w (rv kd c nm n fl ks) t) :
    Calls Tryz.prog 20 #[.agg (rv kd c nm n fl ks), .slice none 0 0] w fun en w' => ∃ bl : Bool, en = .returned (.bool bl) ∧ (bl = true → Roomy (enc idW t).length (bnds idW 0 0 t)) ∧ Below w.heap.size w w' := by
  have b1 : Below w.heap.size w (w.alloc (.cells (rv kd c nm n fl ks) tRu)) := (Below.refl _ _).alloc (Nat.le_refl _) _
  have F := Lib.hid (Wr.fresh (ht.same fun k hk => (b1.mono hB).block k hk) (by simp; omega : B ≤ (w.alloc (.cells (rv kd c nm n fl ks) tRu)).heap.size) false)
  have p1 := hp.mono (N' := (w.alloc (.cells (rv kd c nm n fl ks) tRu)).heap.size) (w' := (w.alloc (.cells (rv kd c nm n fl ks) tRu)).alloc (.cells ((W0 false).cs (.slice none 0 0) (.slice none 0 0) (.slice none 0 0) (.slice none 0 0)) tW)) (by simp; omega) (fun k hk => ((b1.mono hB).alloc (by simp; omega) _).block k hk)
  have HW := Lib.hid ((wrote_all _ t b0 (Nat.le_refl _) hrt hb).piece hk M _ _ (W0 false) _ kd c nm n fl ks p1 F.out (by unfold room W0; simp; omega))
  have hin := bnds_in _ t (Nat.le_refl _) b0 hb hrt 0 0
  have hel := (enc_ok _ t (Nat.le_refl _) b0 hb hrt).2
  have b2 := Lib.hid (b1.alloc (by simp) (.cells ((W0 false).cs (.slice none 0 0) (.slice none 0 0) (.slice none 0 0) (.slice none 0 0)) tW))
  clear b1 hp ht hB p1 F hk
  have e1 : (w.alloc (.cells (rv kd c nm n fl ks) tRu)).heap.size = w.heap.size + 1 := by simp
  rw [e1] at HW
  clear e1
  go_enter Tryz.func20, Tryz.ntmps20
  go_wp2_with fail
  refine HW.out.mono ?_
  rintro en w1 ⟨rfl, h1, k1⟩
  have b3 := b2.out.trans ((k1.below (by simp)).mono (by simp))
  clear k1 b2 HW
  obtain ⟨vo, vt, vm, vb, ts, ms, h⟩ := h1
  have c0 := h.c0
  have c8 := h.c8
  have c9 := h.c9
  obtain ⟨ao, co, rfl⟩ := row_slice h.out
  obtain ⟨ab, cb, rfl⟩ := row_slice h.bds
  have hrow := Lib.hid (fun j hj => bd_cells h.bds j hj)
  have hlt := h.lt
  have hnb := h.nb
  have eo : ((W0 false).tree t).out = enc idW t := by simp [WR.tree, W0]
  have eb : ((W0 false).tree t).bounds = bnds idW 0 0 t := by simp [WR.tree, W0]
  rw [eo] at c0
  rw [eb] at c8
  rw [eb] at hrow
  rw [eo, eb] at hnb
  clear eo eb h
  have FIN : Hid (∀ (L : List (Nat × Nat)) (T : Nat), bnds idW 0 0 t = L → (enc idW t).length = T → (∀ p ∈ L, p.1 + p.2 < T) → Roomy (enc idW t).length (bnds idW 0 0 t)) := Lib.hid (by
    intro L T e1 e2 h
    subst e1; subst e2
    exact h)
  generalize hL : bnds idW 0 0 t = L at c8 hrow hin hnb
  generalize hTT : (enc idW t).length = T at c0 hin hel hnb
  have FIN2 := Lib.hid (FIN.out L T hL hTT)
  obtain ⟨N, hN⟩ : ∃ N, L.length = N := ⟨_, rfl⟩
  rw [hN] at c8
  have HN := Lib.hid hN
  have HIN := Lib.hid (fun j (hj : j < L.length) => hin _ (List.getElem_mem hj))
  have hT9 : T ≤ 900000 := by omega
  have hNT : Hid (N ≤ 900000000) := Lib.hid (by omega)
  have B3 := Lib.hid b3
  clear hin hN hnb hel hTT hL FIN b3 hrt hb
  go_wp2_with fail
  go_loopg [6, 8, 20] 0 (fun g a _ i wr => g = 0 ∧ a = .int .i64 0 ∧ i = .int .i64 0 ∧ w1 = wr)
  case atStart => exact ⟨rfl, rfl, rfl, rfl⟩
  case round =>
    obtain ⟨rfl, rfl, rfl, rfl⟩ := hrel
    go_wp2_with fail
    go_loopg [10, 12, 32, 48] N (fun g _ _ i _ wr => ∃ j : Nat, g = N - j ∧ j ≤ N ∧ i = .int .i64 j ∧ (∀ p ∈ L.take j, p.1 + p.2 < T) ∧ Below w1.heap.size w1 wr)
    case atStart => exact ⟨0, by omega, Nat.zero_le _, rfl, by simp, Below.refl _ _⟩
    case round =>
      obtain ⟨j, rfl, hj, rfl, hdone, hb⟩ := hrel
      have d0 : wr.cell? ⟨w.heap.size + 1, 0, none⟩ = some (.slice ao T co) := (hb.cell hlt).trans c0
      have d9 : wr.cell? ⟨w.heap.size + 1, 9, none⟩ = some (.slice none 0 0) := (hb.cell hlt).trans c9
      have HD := Lib.hid hdone
      have HB := Lib.hid hb
      clear hdone
      by_cases hlt2 : j < N
      · obtain ⟨g, co2, e2, hg, q1, q2⟩ := hrow.out j (by have := HN.out; omega)
        obtain ⟨i1, i2⟩ := HIN.out j (by have := HN.out; omega)
        have q1 := (hb.cell (p := ⟨g, j * 2, none⟩) hg).trans q1
        have q2 := (hb.cell (p := ⟨g, j * 2 + 1, none⟩) hg).trans q2
        simp only [Value.slice.injEq] at e2
        obtain ⟨rfl, _, rfl⟩ := e2
        generalize hp : L[j]'(by have := HN.out; omega) = p at q1 q2 i1 i2
        have HP := Lib.hid hp
        have hjl := Lib.hid (show j < L.length by have := HN.out; omega)
        clear hp hb hrow HIN c0 c8 c9
        have dd := Below.heap_alloc wr (.cells #[.int .i64 (p.1 : Nat), .int .i64 (p.2 : Nat)] tBd) (w.heap.size + 1) (by have := HB.out.size; omega)
        have f0 : (wr.alloc (.cells #[.int .i64 (p.1 : Nat), .int .i64 (p.2 : Nat)] tBd)).cell? ⟨w.heap.size + 1, 0, none⟩ = some (.slice ao T co) := by rw [← d0]; simp only [World.cell?, dd]
        have f9 : (wr.alloc (.cells #[.int .i64 (p.1 : Nat), .int .i64 (p.2 : Nat)] tBd)).cell? ⟨w.heap.size + 1, 9, none⟩ = some (.slice none 0 0) := by rw [← d9]; simp only [World.cell?, dd]
        have HBA := Lib.hid (HB.out.alloc (by have := HB.out.size; omega) (.cells #[.int .i64 (p.1 : Nat), .int .i64 (p.2 : Nat)] tBd))
        clear dd d9 d0
        by_cases hroom : p.1 + p.2 < T
        · have hle : decide ((T : Int) - (p.1 : Int) ≤ (p.2 : Int)) = false := by simp; omega
          have HR := Lib.hid hroom
          clear hroom
          go_wp2_with fail
          go_loopg [12, 48] 0 (fun g _ i wq => g = 0 ∧ i = .int .i64 0 ∧ wq = wr.alloc (.cells #[.int .i64 (p.1 : Nat), .int .i64 (p.2 : Nat)] tBd))
          case atStart => exact ⟨rfl, rfl, rfl⟩
          case round =>
            obtain ⟨rfl, rfl, rfl⟩ := hrel
            go_wp2_with fail
            go_roundg (N - (j + 1))
            case measure => omega
            case rel =>
              have hNT2 := hNT.out
              refine ⟨j + 1, rfl, hlt2, ?_, ?_, HBA.out⟩
              · have hw : wrap64 ((j : Int) + 1) = (j : Int) + 1 := by unfold wrap64; omega
                rw [hw]; rfl
              intro x hx
              rw [List.take_succ_eq_append_getElem hjl.out] at hx
              rcases List.mem_append.1 hx with hx | hx
              · exact HD.out x hx
              · rw [List.mem_singleton] at hx
                rw [hx, HP.out]
                exact HR.out
        · have hle : decide ((T : Int) - (p.1 : Int) ≤ (p.2 : Int)) = true := by simp; omega
          clear hroom
          go_wp2_with fail
          go_ret
          exact ⟨false, rfl, fun h => absurd h (by decide), B3.out.trans (HBA.out.mono (by have := B3.out.size; omega))⟩
      · have hjm := Lib.hid (show j = N by omega)
        have e3 : L.take j = L := by rw [hjm.out, ← HN.out]; exact List.take_length
        rw [e3] at HD
        clear hb e3
        go_wp2_with fail
        go_ret
        exact ⟨true, rfl, fun _ => FIN2.out HD.out, B3.out.trans (HB.out.mono (by have := B3.out.size; omega))⟩
theorem rustRoomy_any {M : Nat} (t : RT) (b0 : Nat) (hb : b0 ≤ 20) (hrt : Rt b0 t) (hk : isTypeK t.kd) (hs : size t ≤ 300) (kd : Int) (c : UInt8) (nm : List UInt8) (n : Nat) (fl : Bool) (ks : Value)
    (B : Nat) (w : World) (ht : Tabs B w) (hB : B ≤ w.heap.size) (hp : TreeAt M B w (rv kd c nm n fl ks) t) :
    Calls Tryz.prog 20 #[.agg (rv kd c nm n fl ks), .slice none 0 0] w fun en w' => ∃ bl : Bool, en = .returned (.bool bl) ∧ (bl = true → Roomy (enc idW t).length (bnds idW 0 0 t)) ∧ Below w.heap.size w w' :=
  rustRoomy_big t b0 hb hrt hk (by omega) kd c nm n fl ks B w ht hB hp
end Go.Proofs.YtidokamjbglkbaaGreatDoor

