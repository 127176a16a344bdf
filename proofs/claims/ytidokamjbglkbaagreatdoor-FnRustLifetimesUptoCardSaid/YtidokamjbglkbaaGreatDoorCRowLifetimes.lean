/- FnRustLifetimes: lifetimes that are bound have the letters from a on. The card: the row, with the listed package-level variables tied to the program's text, where what is read is of bulk at most 1048576. -/
import Derived.Test.YtidokamjbglkbaaGreatDoorCLLife
import Derived.Test.YtidokamjbglkbaaGreatDoorY36
import Derived.Test.YtidokamjbglkbaaGreatDoorFaLifetimes
namespace Go.Proofs.YtidokamjbglkbaaGreatDoor.lawFnRustLifetimes
open Go.ChangeShapes Go.WideShapes Go.ChangeAt Go.RowKit

set_option maxRecDepth 100000 in
set_option maxHeartbeats 1000000 in
theorem contract (H : Type) (enc : TypeId × Value → H) (W : World) (base : Nat) (args : Array Value) (ds gs : List (DataW H)) (before : List MemPlace)
    (hval : ∀ (j : Nat) t v, Tryz.f8.params[j]? = some t → args[j]? = some v → Value.okWide Tryz.prog W .any base t v)
    (hW : DataW.Whole enc Tryz.prog Tryz.f8.params.toList Rows.fnRustLifetimesSpec.vars false W args.toList ds gs before) (hL : laidMetH Tryz.prog Rows.fnRustLifetimesUptoRow.laid W) (hk : Rows.uptoSmall H (ds ++ gs) = true) :
    Calls Tryz.prog 8 args W fun e W' => ∃ v, e = .returned v ∧ Rows.fnRustLifetimesSpec.post enc Tryz.prog Tryz.f8 false true false false W args v W' := by
  have hW' := hW
  obtain ⟨p, q, hA0, hV, rfl, _, _⟩ := hW
  have hA : DataW.TrodAll enc Tryz.prog W 0 (fun _ => true) true Tryz.f8.params.toList args.toList ds p := hA0
  rw [Tryz.params8] at hA hval
  obtain ⟨v0, vs0, d0, ds0, p0, q0, hargs, rfl, rfl, h0, r0⟩ := trodAll_cons hA
  obtain ⟨v1, vs1, d1, ds1, p1, q1, rfl, rfl, rfl, h1, r1⟩ := trodAll_cons r0
  obtain ⟨v2, vs2, d2, ds2, p2, q2, rfl, rfl, rfl, h2, r2⟩ := trodAll_cons r1
  obtain ⟨rfl, rfl, rfl⟩ := trodAll_nil r2
  obtain rfl : args = #[v0, v1, v2] := by cases args; simp_all
  obtain ⟨g1, g2, rfl⟩ := two_vars hV
  have hbk := bulk_parts hk
  obtain ⟨x0, rfl, rfl, rfl, wx0⟩ := open_int Tryz.underlying22 (hval 0 22 v0 rfl rfl) h0
  have bx0 := bounds_u64 wx0
  obtain ⟨n0, rfl⟩ : ∃ n : Nat, x0 = n := ⟨x0.toNat, by omega⟩
  obtain ⟨x1, rfl, rfl, rfl, wx1⟩ := open_int Tryz.underlying22 (hval 1 22 v1 rfl rfl) h1
  have bx1 := bounds_u64 wx1
  obtain ⟨n1, rfl⟩ : ∃ n : Nat, x1 = n := ⟨x1.toNat, by omega⟩
  obtain ⟨cs2, t2, rfl, ht2⟩ := arg_treeU (hval 2 tTree v2 rfl rfl) h2 (hbk d2 (by simp))
  have hT : Tabs W.heap.size W := ⟨W, tabs_of (plain_laidL W hL), Nat.le_refl _, fun _ _ => rfl⟩
  have walk : Calls Tryz.prog 8 #[.int .u64 (n0 : Nat), .int .u64 (n1 : Nat), .agg cs2] W fun e w' => e = .returned (.bool true) ∧ Below W.heap.size W w' := law_lifetimes t2 (by omega) n0 n1 (by omega) (by omega) cs2 W.heap.size W hT (Nat.le_refl _) ht2
  refine walk.mono fun e W' ⟨he, hb⟩ => ?_
  subst he
  exact ⟨_, rfl, post_true hW' rfl rfl rfl (by rw [Tryz.params8]; intro t ht; simp at ht; rcases ht with rfl | rfl | rfl <;> kernel_rfl) hb⟩

def args0 : Array Value := #[.int .u64 0, .int .u64 0, .agg #[.int .i64 0, .int .u8 0, .string ⟨#[]⟩, .int .u64 0, .bool false, .slice none 0 0]]
theorem reads (os : Os) {H : Type} (enc : TypeId × Value → H) : ∃ x, DataW.whole enc Tryz.prog ((wit os).forCall (fun _ _ => 0) ⟨#[], args0, []⟩).memory Tryz.f8.params.toList Rows.fnRustLifetimesSpec.vars false args0.toList 8 = some x ∧
    x.1 = [.lit (.int .u64 0), .lit (.int .u64 0), .agg [.lit (.int .i64 0), .lit (.int .u8 0), .lit (.string []), .lit (.int .u64 0), .lit (.bool false), .nil]] ∧ Rows.uptoSmall H (x.1 ++ x.2.1) = true := by
  have hw : (DataW.whole enc Tryz.prog ((wit os).forCall (fun _ _ => 0) ⟨#[], args0, []⟩).memory Tryz.f8.params.toList Rows.fnRustLifetimesSpec.vars false args0.toList 8).map (fun x => (x.1, Rows.uptoSmall H (x.1 ++ x.2.1))) =
    some ([.lit (.int .u64 0), .lit (.int .u64 0), .agg [.lit (.int .i64 0), .lit (.int .u8 0), .lit (.string []), .lit (.int .u64 0), .lit (.bool false), .nil]], true) := by kernel_rfl
  obtain ⟨x, h1, h2⟩ := Option.map_eq_some_iff.1 hw
  exact ⟨x, h1, (Prod.mk.inj h2).1, (Prod.mk.inj h2).2⟩

set_option maxRecDepth 100000 in
theorem lifted (os : Os) (started : os.Started) (H : Type) (enc : TypeId × Value → H) (F : Stop.Interp) :
    ReturnsInHanded {} Tryz.checked os 8 .any ((Rows.OpenSpec.upto Rows.fnRustLifetimesSpec).preRow enc Tryz.prog Tryz.f8 Rows.fnRustLifetimesUptoRow.domain false Rows.fnRustLifetimesUptoRow.laid) (((Rows.OpenSpec.upto Rows.fnRustLifetimesSpec).at F).post enc Tryz.prog Tryz.f8 false true false false) := by
  obtain ⟨⟨x1, x2, x3⟩, hx, hx1, hx2⟩ := reads os enc
  simp only at hx1 hx2
  subst hx1
  refine returnsInHanded_of_row (C := Tryz.checked) (s := (Rows.OpenSpec.upto Rows.fnRustLifetimesSpec)) own started (by kernel_rfl) Tryz.func8
    (witness_row_atRef (enc := enc) (C := Tryz.checked) false (wit os) args0 (wit_os os) (by kernel_rfl) (by kernel_rfl) (by kernel_rfl)
      (OpenSpec.preRow_of_cond 8 hx (by kernel_rfl) (fun k hk => by cases hk; exact hx2) (by kernel_rfl) (laidH_mk _ (wit_met os _)))) ?_
  intro W base args ds gs before hval hW _ hcond _ hL _ _
  exact contract H enc W base args ds gs before hval hW hL (hcond _ rfl)

theorem said : Rows.FnRustLifetimesUptoSaid :=
  OpenClaim.holds_of_cond 8 Tryz.f8 rfl rfl rfl rfl rfl rfl rfl ⟨rfl, rfl, rfl, rfl, rfl⟩ rfl rfl rfl rfl rfl named Tryz.func8 closed inst wrap
    (fun os started H enc _ F => by rw [OpenClaim.pre_eq_preRow]; exact lifted os started H enc F)

theorem plain (f : FuncId) (fn : Func) (hf : Tryz.pinned.checked.prog.funcNamed "loop.example/pub-g01453/laws.FnRustLifetimes" = some f) (hfn : Tryz.pinned.checked.prog.funcs[f]? = some fn) :
    true = Tryz.pinned.checked.prog.looks [] ∧ ∀ (j : Nat) t, fn.params[j]? = some t → Tryz.pinned.checked.prog.wantsStandIn t = false := by
  obtain rfl : f = 8 := Option.some.inj ((show Tryz.prog.funcNamed "loop.example/pub-g01453/laws.FnRustLifetimes" = some 8 by kernel_rfl).symm.trans hf) |>.symm
  obtain rfl : fn = Tryz.f8 := (Option.some.inj (Tryz.func8.symm.trans hfn)).symm
  refine ⟨by kernel_rfl, fun j t ht => ?_⟩
  rw [Tryz.params8] at ht
  have hm := Array.mem_of_getElem? ht
  simp only [List.mem_toArray, List.mem_cons, List.not_mem_nil, or_false] at hm
  rcases hm with rfl | rfl | rfl
  all_goals
    show Tryz.prog.wantsStandIn _ = false
    kernel_rfl

theorem card : Rows.FnRustLifetimesUptoCardSaid :=
  Claim7.holds_tied_plain_at .later [] _ _ _ _ said (fun _ h => by cases h) (by kernel_rfl) (fun _ h => by cases h) fnRustLifetimesUpto_row_tie rfl ⟨rfl, rfl⟩ (by kernel_rfl) rfl plain (by kernel_rfl)
end Go.Proofs.YtidokamjbglkbaaGreatDoor.lawFnRustLifetimes
