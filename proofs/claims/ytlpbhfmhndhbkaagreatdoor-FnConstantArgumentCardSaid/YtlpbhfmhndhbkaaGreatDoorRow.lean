/- From a call that returns true and leaves all that was there to a row's and a card's statement. -/
import Derived.Test.YtlpbhfmhndhbkaaGreatDoorWit
import Derived.Test.YtlpbhfmhndhbkaaGreatDoorTie
import Derived.SevenTiedAt
import Derived.WideKeyArgs
import Derived.Carry
namespace Go.Proofs.YtlpbhfmhndhbkaaGreatDoor
open Go.ChangeShapes Go.WideShapes Go.ChangeAt Go.RowKit

theorem laidOut : laidOutB Tryz.prog = true := by kernel_rfl
/-- A type that can be read to its bottom. -/
noncomputable def okT (t : TypeId) : Bool := Tryz.prog.readableRec t && decide (t < Tryz.prog.types.size)

section
variable {H : Type} {enc : TypeId × Value → H} {W W' : World}
theorem trod_kept {t : TypeId} (ht : okT t = true) {n : Nat} {cs : List Value} {x : DataW H × List MemPlace} (h : DataW.trod enc Tryz.prog W 0 (fun _ => true) true n t cs = some x) (hb : Below W.heap.size W W') (hlt : ∀ p ∈ x.2, p.block < W.heap.size) :
    DataW.trod enc Tryz.prog W' 0 (fun b => decide (b < W.heap.size)) true n t cs = some x := by
  unfold okT at ht
  simp only [Bool.and_eq_true, decide_eq_true_eq] at ht
  exact DataW.trod_stays (kids_book laidOut ht.1) (book_sized ht.1) (fun h => by cases h) ⟨ht.2, book_self t⟩ h (fun p hp => hb.same (hlt p hp)) (fun p hp => by simpa using hlt p hp)
theorem args_kept : ∀ (ts : List TypeId) (vs : List Value) (ds : List (DataW H)) (ps : List MemPlace), DataW.TrodAll enc Tryz.prog W 0 (fun _ => true) true ts vs ds ps → (∀ t ∈ ts, okT t = true) → Below W.heap.size W W' → (∀ p ∈ ps, p.block < W.heap.size) →
    DataW.TrodAll enc Tryz.prog W' 0 (fun b => decide (b < W.heap.size)) true ts vs ds ps
  | [], [], [], _, h, _, _, _ => h
  | t :: ts, v :: vs, d :: ds, _, ⟨p, q, ⟨n, h1⟩, h2, e⟩, ht, hb, hlt => by
    subst e
    exact ⟨p, q, ⟨n, trod_kept (ht t (List.mem_cons_self ..)) h1 hb fun x hx => hlt x (List.mem_append_left _ hx)⟩, args_kept ts vs ds q h2 (fun t h => ht t (List.mem_cons_of_mem _ h)) hb (fun x hx => hlt x (List.mem_append_right _ hx)), rfl⟩
  | [], _ :: _, _, _, h, _, _, _ => h.elim
  | [], [], _ :: _, _, h, _, _, _ => h.elim
  | _ :: _, [], _, _, h, _, _, _ => h.elim
  | _ :: _, _ :: _, [], _, h, _, _, _ => h.elim
theorem vars_kept : ∀ (ns : List String) (gs : List (DataW H)) (ps : List MemPlace), DataW.TrodVars enc Tryz.prog W (fun _ => true) ns gs ps → (∀ n ∈ ns, ∀ g t, Tryz.prog.globalNamed n = some g → (Tryz.prog.globals[g]?).map (·.type) = some t → okT t = true) →
    Below W.heap.size W W' → (∀ p ∈ ps, p.block < W.heap.size) → DataW.TrodVars enc Tryz.prog W' (fun b => decide (b < W.heap.size)) ns gs ps
  | [], [], _, h, _, _, _ => h
  | n :: ns, d :: gs, _, ⟨g, t, cs, fuel, p, q, h1, h2, h3, h4, h5, e⟩, ht, hb, hlt => by
    subst e
    have hg : g < W.heap.size := by
      rcases Nat.lt_or_ge g W.heap.size with h | h
      · exact h
      · unfold World.var? at h3; rw [h1] at h3; simp [Array.getElem?_eq_none h] at h3
    refine ⟨g, t, cs, fuel, p, q, h1, h2, ?_, trod_kept (ht n (List.mem_cons_self ..) g t h1 h2) h4 hb fun x hx => hlt x (by simp [hx]), vars_kept ns gs q h5 (fun n h => ht n (List.mem_cons_of_mem _ h)) hb (fun x hx => hlt x (by simp [hx])), rfl⟩
    rw [← h3]
    unfold World.var?
    rw [h1]
    simp only [Option.bind_some, hb.block g hg]
  | [], _ :: _, _, h, _, _, _ => h.elim
  | _ :: _, [], _, h, _, _, _ => h.elim
end

theorem errT : (((Tryz.prog.globalNamed "loop.example/pub-g01453/pub/rustdemangle.ErrNotMangledName").bind fun g => (Tryz.prog.globals[g]?).map (·.type)).map okT) = some true := by kernel_rfl
theorem basT : (((Tryz.prog.globalNamed basicN).bind fun g => (Tryz.prog.globals[g]?).map (·.type)).map okT) = some true := by kernel_rfl
theorem names_ok : ∀ n ∈ (["loop.example/pub-g01453/pub/rustdemangle.ErrNotMangledName", basicN] : List String), ∀ g t, Tryz.prog.globalNamed n = some g → (Tryz.prog.globals[g]?).map (·.type) = some t → okT t = true := by
  intro n hn g t h1 h2
  simp only [List.mem_cons, List.not_mem_nil, or_false] at hn
  rcases hn with rfl | rfl
  · have := errT; rw [h1, Option.bind_some, h2] at this; simpa using this
  · have := basT; rw [h1, Option.bind_some, h2] at this; simpa using this

section
variable {H : Type} {enc : TypeId × Value → H} {W W' : World}
set_option maxRecDepth 100000 in
/-- A tree among the arguments, opened: whatever its size. -/
theorem arg_tree {r : Reach} {base : Nat} {v : Value} {d : DataW H} {p : List MemPlace} (hv : Value.okWide Tryz.prog W r base tTree v) (h : DataW.Trod enc Tryz.prog W 0 (fun _ => true) true tTree v d p) :
    ∃ cs t, v = .agg cs ∧ TreeAt maxLen W.heap.size W cs t := by
  obtain ⟨fs, hu, _⟩ := underTree
  obtain ⟨cs, rfl, _⟩ := okWide_struct hu hv
  obtain ⟨n, hn⟩ := h
  obtain ⟨t, ht⟩ := open_tree (M := maxLen) (Bk := fun _ => True) (fun _ _ _ _ => trivial) (fun l s _ h => ⟨h, fun _ _ => trivial⟩) (fun _ _ h => h) n _ _ hn trivial
  exact ⟨cs, t, rfl, by simpa [Value.cells] using ht⟩
/-- A law that returns true and writes only what is new. -/
theorem post_true {f : Func} {s : ChangeSpec} {args : Array Value} {ds gs : List (DataW H)} {before : List MemPlace}
    (hW : DataW.Whole enc Tryz.prog f.params.toList s.vars false W args.toList ds gs before) (hv : s.vars = ["loop.example/pub-g01453/pub/rustdemangle.ErrNotMangledName", basicN])
    (hs : s.fn H (ds ++ gs) = { results := [.lit (.bool true)], args := ds, vars := gs }) (hr : f.resultTypes = #[4]) (hp : ∀ t ∈ f.params.toList, okT t = true) (hb : Below W.heap.size W W') :
    s.post enc Tryz.prog f false true false false W args (.bool true) W' := by
  have hW' := hW
  obtain ⟨p, q, hA, hV, rfl, _, _⟩ := hW
  have hlt : ∀ x ∈ p ++ q, x.block < W.heap.size := fun x hx => by simpa using hW'.lt x hx
  refine ⟨ds, gs, p ++ q, [], p, q, hW', ?_, ?_, ?_, hb.frame _, fun h => by cases h⟩
  · rw [hs, hr]; exact trodAll_cons_mk (shut_bool Tryz.underlying4 _) trodAll_mk0
  · rw [hs]; exact args_kept _ _ _ _ hA hp hb fun x hx => hlt x (List.mem_append_left _ hx)
  · rw [hs]; rw [hv] at hV ⊢; exact vars_kept _ _ _ hV names_ok hb fun x hx => hlt x (List.mem_append_right _ hx)
end
end Go.Proofs.YtlpbhfmhndhbkaaGreatDoor
