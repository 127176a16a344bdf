/- FnRustMark: the disambiguator of a crate is not told. The card: the row, with the listed package-level variables tied to the program's text. -/
import Derived.Test.YtaeiclgdhchneaaGreatDoorZ01
import Derived.Test.YtaeiclgdhchneaaGreatDoorY32
namespace Go.Proofs.YtaeiclgdhchneaaGreatDoor.lawFnRustMark
open Go.ChangeShapes Go.WideShapes Go.ChangeAt Go.RowKit

set_option maxRecDepth 100000 in
set_option maxHeartbeats 1000000 in
theorem contract (H : Type) (enc : TypeId × Value → H) (W : World) (base : Nat) (args : Array Value) (ds gs : List (DataW H)) (before : List MemPlace)
    (hval : ∀ (j : Nat) t v, Tryz.f3.params[j]? = some t → args[j]? = some v → Value.okWide Tryz.prog W .any base t v)
    (hW : DataW.Whole enc Tryz.prog Tryz.f3.params.toList Rows.fnRustMarkSpec.vars false W args.toList ds gs before) (hL : laidMetH Tryz.prog Rows.fnRustMarkRow.laid W) :
    Calls Tryz.prog 3 args W fun e W' => ∃ v, e = .returned v ∧ Rows.fnRustMarkSpec.post enc Tryz.prog Tryz.f3 false true false false W args v W' := by
  have hW' := hW
  obtain ⟨p, q, hA0, hV, rfl, _, _⟩ := hW
  have hA : DataW.TrodAll enc Tryz.prog W 0 (fun _ => true) true Tryz.f3.params.toList args.toList ds p := hA0
  rw [Tryz.params3] at hA hval
  obtain ⟨v0, vs0, d0, ds0, p0, q0, hargs, rfl, rfl, h0, r0⟩ := trodAll_cons hA
  obtain ⟨v1, vs1, d1, ds1, p1, q1, rfl, rfl, rfl, h1, r1⟩ := trodAll_cons r0
  obtain ⟨rfl, rfl, rfl⟩ := trodAll_nil r1
  obtain rfl : args = #[v0, v1] := by cases args; simp_all
  obtain ⟨g1, g2, rfl⟩ := two_vars hV
  obtain ⟨s0, rfl, rfl, rfl, ws0⟩ := ChangeMaps.open_string Tryz.underlying9 (hval 0 9 v0 rfl rfl) h0
  obtain ⟨x1, rfl, rfl, rfl, wx1⟩ := open_int Tryz.underlying22 (hval 1 22 v1 rfl rfl) h1
  have bx1 := bounds_u64 wx1
  obtain ⟨n1, rfl⟩ : ∃ n : Nat, x1 = n := ⟨x1.toNat, by omega⟩
  have hT : Tabs W.heap.size W := ⟨W, tabs_of (plain_laidL W hL), Nat.le_refl _, fun _ _ => rfl⟩
  have walk : Calls Tryz.prog 3 #[.string s0, .int .u64 (n1 : Nat)] W fun e w' => e = .returned (.bool true) ∧ Below W.heap.size W w' := by have := law_mark s0.data.toList n1 (by omega) ws0 W.heap.size W hT (Nat.le_refl _); rwa [bs_of] at this
  refine walk.mono fun e W' ⟨he, hb⟩ => ?_
  subst he
  exact ⟨_, rfl, post_true hW' rfl rfl rfl (by rw [Tryz.params3]; intro t ht; simp at ht; rcases ht with rfl | rfl <;> kernel_rfl) hb⟩

def args0 : Array Value := #[.string ⟨#[]⟩, .int .u64 0]
theorem reads (os : Os) {H : Type} (enc : TypeId × Value → H) : ∃ x, DataW.whole enc Tryz.prog ((wit os).forCall (fun _ _ => 0) ⟨#[], args0, []⟩).memory Tryz.f3.params.toList Rows.fnRustMarkSpec.vars false args0.toList 8 = some x ∧
    x.1 = [.lit (.string []), .lit (.int .u64 0)] := by
  have hw : (DataW.whole enc Tryz.prog ((wit os).forCall (fun _ _ => 0) ⟨#[], args0, []⟩).memory Tryz.f3.params.toList Rows.fnRustMarkSpec.vars false args0.toList 8).map (fun x => x.1) =
    some [.lit (.string []), .lit (.int .u64 0)] := by kernel_rfl
  obtain ⟨x, h1, h2⟩ := Option.map_eq_some_iff.1 hw
  exact ⟨x, h1, h2⟩

set_option maxRecDepth 100000 in
theorem lifted (os : Os) (started : os.Started) (H : Type) (enc : TypeId × Value → H) (F : Stop.Interp) :
    ReturnsInHanded {} Tryz.checked os 3 .any ((OpenSpec.ofChange Rows.fnRustMarkSpec).preRow enc Tryz.prog Tryz.f3 Rows.fnRustMarkRow.domain false Rows.fnRustMarkRow.laid) (((OpenSpec.ofChange Rows.fnRustMarkSpec).at F).post enc Tryz.prog Tryz.f3 false true false false) := by
  obtain ⟨⟨x1, x2, x3⟩, hx, hx1⟩ := reads os enc
  simp only at hx1
  subst hx1
  refine returnsInHanded_of_row (C := Tryz.checked) (s := (OpenSpec.ofChange Rows.fnRustMarkSpec)) own started (by kernel_rfl) Tryz.func3
    (witness_row_atRef (enc := enc) (C := Tryz.checked) false (wit os) args0 (wit_os os) (by kernel_rfl) (by kernel_rfl) (by kernel_rfl)
      (OpenSpec.preRow_of_cond 8 hx (by kernel_rfl) (fun k hk => by cases hk) (by kernel_rfl) (laidH_mk _ (wit_met os _)))) ?_
  intro W base args ds gs before hval hW _ _ _ hL _ _
  exact contract H enc W base args ds gs before hval hW hL

theorem said : Rows.FnRustMarkSaid :=
  OpenClaim.holds_of_cond 3 Tryz.f3 rfl rfl rfl rfl rfl rfl rfl ⟨rfl, rfl, rfl, rfl, rfl⟩ rfl rfl rfl rfl rfl (by kernel_rfl) Tryz.func3 (by kernel_rfl)
    (of_decide_eq_true (by kernel_rfl)) (by unfold Func.isWrapper; first | (rw [if_pos (by decide +kernel)]; kernel_rfl) | (rw [if_neg (by decide +kernel)]; exact ⟨rfl, rfl⟩))
    (fun os started H enc _ F => by rw [OpenClaim.pre_eq_preRow]; exact lifted os started H enc F)

theorem plain (f : FuncId) (fn : Func) (hf : Tryz.pinned.checked.prog.funcNamed "loop.example/pub-g01453/laws.FnRustMark" = some f) (hfn : Tryz.pinned.checked.prog.funcs[f]? = some fn) :
    true = Tryz.pinned.checked.prog.looks [] ∧ ∀ (j : Nat) t, fn.params[j]? = some t → Tryz.pinned.checked.prog.wantsStandIn t = false := by
  obtain rfl : f = 3 := Option.some.inj ((show Tryz.prog.funcNamed "loop.example/pub-g01453/laws.FnRustMark" = some 3 by kernel_rfl).symm.trans hf) |>.symm
  obtain rfl : fn = Tryz.f3 := (Option.some.inj (Tryz.func3.symm.trans hfn)).symm
  refine ⟨by kernel_rfl, fun j t ht => ?_⟩
  rw [Tryz.params3] at ht
  have hm := Array.mem_of_getElem? ht
  simp only [List.mem_toArray, List.mem_cons, List.not_mem_nil, or_false] at hm
  rcases hm with rfl | rfl
  all_goals
    show Tryz.prog.wantsStandIn _ = false
    kernel_rfl

theorem card : Rows.FnRustMarkCardSaid :=
  Claim7.holds_tied_plain_at .later [] _ _ _ _ said (fun _ h => by cases h) (by kernel_rfl) (fun _ h => by cases h) fnRustMark_row_tie rfl ⟨rfl, rfl⟩ (by kernel_rfl) rfl plain (by kernel_rfl)
end Go.Proofs.YtaeiclgdhchneaaGreatDoor.lawFnRustMark
