/- The row of FnRustBinding: the facts about its function. -/
import Derived.Test.YtidokamjbglkbaaGreatDoorRows
import Derived.Test.YtidokamjbglkbaaGreatDoorCards
import Derived.JoinedCond
import Derived.KernelRfl
namespace Go.Proofs.YtidokamjbglkbaaGreatDoor.lawFnRustBinding

theorem closed : joinedFacts Tryz.pinned.checked.prog 7 Tryz.f7 (Rows.OpenSpec.upto Rows.fnRustBindingSpec).bare Rows.fnRustBindingUptoRow = true := by kernel_rfl
theorem named : Tryz.pinned.checked.prog.funcNamed Rows.fnRustBindingUptoRow.func = some 7 := by kernel_rfl
theorem inst : Tryz.f7.isInstance Tryz.pinned.checked.prog Rows.fnRustBindingUptoRow.origin Rows.fnRustBindingUptoRow.targs := of_decide_eq_true (by kernel_rfl)
theorem wrap : Tryz.f7.isWrapper Tryz.pinned.checked.prog Rows.fnRustBindingUptoRow.wrapper Rows.fnRustBindingUptoRow.mainSum := by
  unfold Func.isWrapper
  first | (rw [if_pos (by decide +kernel)]; kernel_rfl) | (rw [if_neg (by decide +kernel)]; exact ⟨rfl, rfl⟩)

end Go.Proofs.YtidokamjbglkbaaGreatDoor.lawFnRustBinding
