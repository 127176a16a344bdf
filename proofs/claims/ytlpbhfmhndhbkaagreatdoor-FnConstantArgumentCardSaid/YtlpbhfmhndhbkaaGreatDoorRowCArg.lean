/- FnConstantArgument, for every input: a constant is told alike by itself and as a generic argument. The card: the row, with the listed package-level variables tied to the program's text. -/
import Derived.Test.YtlpbhfmhndhbkaaGreatDoorCArg
import Derived.Test.YtlpbhfmhndhbkaaGreatDoorRow
namespace Go.Proofs.YtlpbhfmhndhbkaaGreatDoor.lawCArg
open Go.ChangeShapes Go.WideShapes Go.ChangeAt Go.RowKit

set_option maxRecDepth 100000 in
theorem contract (H : Type) (enc : TypeId × Value → H) (W : World) (base : Nat) (args : Array Value) (ds gs : List (DataW H)) (before : List MemPlace)
    (hval : ∀ (j : Nat) t v, Tryz.f4.params[j]? = some t → args[j]? = some v → Value.okWide Tryz.prog W .any base t v)
    (hW : DataW.Whole enc Tryz.prog Tryz.f4.params.toList Rows.fnConstantArgumentSpec.vars false W args.toList ds gs before) (hL : laidMetH Tryz.prog Rows.fnConstantArgumentRow.laid W) :
    Calls Tryz.prog 4 args W fun e W' => ∃ v, e = .returned v ∧ Rows.fnConstantArgumentSpec.post enc Tryz.prog Tryz.f4 false true false false W args v W' := by
  have hW' := hW
  obtain ⟨p, q, hA0, hV, rfl, _, _⟩ := hW
  have hA : DataW.TrodAll enc Tryz.prog W 0 (fun _ => true) true Tryz.f4.params.toList args.toList ds p := hA0
  rw [Tryz.params4] at hA hval
  obtain ⟨v0, vs0, d0, ds0, p0, q0, hargs, rfl, rfl, h0, r0⟩ := trodAll_cons hA
  obtain ⟨rfl, rfl, rfl⟩ := trodAll_nil r0
  obtain rfl : args = #[v0] := by cases args; simp_all
  obtain ⟨g1, gs1, rfl⟩ : ∃ g1 gs1, gs = g1 :: gs1 := by cases gs with | nil => exact hV.elim | cons a l => exact ⟨a, l, rfl⟩
  obtain ⟨g2, gs2, rfl⟩ : ∃ g2 gs2, gs1 = g2 :: gs2 := by
    obtain ⟨_, _, _, _, _, _, _, _, _, _, h, _⟩ := hV
    cases gs1 with | nil => exact h.elim | cons a l => exact ⟨a, l, rfl⟩
  obtain rfl : gs2 = [] := by
    obtain ⟨_, _, _, _, _, _, _, _, _, _, h, _⟩ := hV
    obtain ⟨_, _, _, _, _, _, _, _, _, _, h, _⟩ := h
    cases gs2 with | nil => rfl | cons a l => exact h.elim
  obtain ⟨cs, t, rfl, ht⟩ := arg_tree (hval 0 tTree v0 rfl rfl) h0
  have hT : Tabs W.heap.size W := ⟨W, tabs_of (plain_laidL W hL), Nat.le_refl _, fun _ _ => rfl⟩
  have walk : Calls Tryz.prog 4 #[.agg cs] W fun e w' => e = .returned (.bool true) ∧ Below W.heap.size W w' := by
    cases ht with
    | mk kd c nm n fl a m cap V ks hn _ _ _ _ _ => exact carg_law kd c nm n fl a m cap hn W.heap.size W hT (Nat.le_refl _)
  refine walk.mono fun e W' ⟨he, hb⟩ => ?_
  subst he
  exact ⟨_, rfl, post_true hW' rfl rfl rfl (by rw [Tryz.params4]; intro t ht; simp at ht; subst ht; kernel_rfl) hb⟩

/-- A tree of nothing. -/
def args0 : Array Value := #[.agg #[.int .i64 0, .int .u8 0, .string ⟨#[]⟩, .int .u64 0, .bool false, .slice none 0 0]]
theorem reads (os : Os) {H : Type} (enc : TypeId × Value → H) : ∃ x, DataW.whole enc Tryz.prog ((wit os).forCall (fun _ _ => 0) ⟨#[], args0, []⟩).memory Tryz.f4.params.toList Rows.fnConstantArgumentSpec.vars false args0.toList 8 = some x ∧
    x.1 = [.agg [.lit (.int .i64 0), .lit (.int .u8 0), .lit (.string []), .lit (.int .u64 0), .lit (.bool false), .nil]] := by
  have hw : (DataW.whole enc Tryz.prog ((wit os).forCall (fun _ _ => 0) ⟨#[], args0, []⟩).memory Tryz.f4.params.toList Rows.fnConstantArgumentSpec.vars false args0.toList 8).map (fun x => x.1) =
    some [.agg [.lit (.int .i64 0), .lit (.int .u8 0), .lit (.string []), .lit (.int .u64 0), .lit (.bool false), .nil]] := by kernel_rfl
  obtain ⟨x, h1, h2⟩ := Option.map_eq_some_iff.1 hw
  exact ⟨x, h1, h2⟩

set_option maxRecDepth 100000 in
theorem lifted (os : Os) (started : os.Started) (H : Type) (enc : TypeId × Value → H) (F : Stop.Interp) :
    ReturnsInHanded {} Tryz.checked os 4 .any ((OpenSpec.ofChange Rows.fnConstantArgumentSpec).preRow enc Tryz.prog Tryz.f4 Rows.fnConstantArgumentRow.domain false Rows.fnConstantArgumentRow.laid) (((OpenSpec.ofChange Rows.fnConstantArgumentSpec).at F).post enc Tryz.prog Tryz.f4 false true false false) := by
  obtain ⟨⟨x1, x2, x3⟩, hx, hx1⟩ := reads os enc
  simp only at hx1
  subst hx1
  refine returnsInHanded_of_row (C := Tryz.checked) (s := OpenSpec.ofChange Rows.fnConstantArgumentSpec) own started (by kernel_rfl) Tryz.func4
    (witness_row_atRef (enc := enc) (C := Tryz.checked) false (wit os) args0 (wit_os os) (by kernel_rfl) (by kernel_rfl) (by kernel_rfl)
      (OpenSpec.preRow_of_cond 8 hx (by kernel_rfl) (fun k hk => by cases hk) (by kernel_rfl) (laidH_mk _ (wit_met os _)))) ?_
  intro W base args ds gs before hval hW _ _ _ hL _ _
  exact contract H enc W base args ds gs before hval hW hL

theorem said : Rows.FnConstantArgumentSaid :=
  OpenClaim.holds_of_cond 4 Tryz.f4 rfl rfl rfl rfl rfl rfl rfl ⟨rfl, rfl, rfl, rfl, rfl⟩ rfl rfl rfl rfl rfl (by kernel_rfl) Tryz.func4 (by kernel_rfl)
    (of_decide_eq_true (by kernel_rfl)) (by unfold Func.isWrapper; first | (rw [if_pos (by decide +kernel)]; kernel_rfl) | (rw [if_neg (by decide +kernel)]; exact ⟨rfl, rfl⟩))
    (fun os started H enc _ F => by rw [OpenClaim.pre_eq_preRow]; exact lifted os started H enc F)

theorem plain (f : FuncId) (fn : Func) (hf : Tryz.pinned.checked.prog.funcNamed "loop.example/pub-g01453/laws.FnConstantArgument" = some f) (hfn : Tryz.pinned.checked.prog.funcs[f]? = some fn) :
    true = Tryz.pinned.checked.prog.looks [] ∧ ∀ (j : Nat) t, fn.params[j]? = some t → Tryz.pinned.checked.prog.wantsStandIn t = false := by
  obtain rfl : f = 4 := Option.some.inj ((show Tryz.prog.funcNamed "loop.example/pub-g01453/laws.FnConstantArgument" = some 4 by kernel_rfl).symm.trans hf) |>.symm
  obtain rfl : fn = Tryz.f4 := (Option.some.inj (Tryz.func4.symm.trans hfn)).symm
  refine ⟨by kernel_rfl, fun j t ht => ?_⟩
  rw [Tryz.params4] at ht
  obtain rfl : t = tTree := by simpa using Array.mem_of_getElem? ht
  exact (show Tryz.prog.wantsStandIn tTree = false by kernel_rfl)

theorem card : Rows.FnConstantArgumentCardSaid :=
  Claim7.holds_tied_plain_at .later [] _ _ _ _ said (fun _ h => by cases h) (by kernel_rfl) (fun _ h => by cases h) fnConstantArgument_row_tie rfl ⟨rfl, rfl⟩ (by kernel_rfl) rfl plain (by kernel_rfl)
end Go.Proofs.YtlpbhfmhndhbkaaGreatDoor.lawCArg
