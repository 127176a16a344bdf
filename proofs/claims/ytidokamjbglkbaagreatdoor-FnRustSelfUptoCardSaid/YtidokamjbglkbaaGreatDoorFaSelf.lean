/- The row of FnRustSelf: the facts about its function. -/
import Derived.Test.YtidokamjbglkbaaGreatDoorRows
import Derived.Test.YtidokamjbglkbaaGreatDoorCards
import Derived.JoinedCond
import Derived.KernelRfl
namespace Go.Proofs.YtidokamjbglkbaaGreatDoor.lawFnRustSelf

theorem closed : joinedFacts Tryz.pinned.checked.prog 6 Tryz.f6 (Rows.OpenSpec.upto Rows.fnRustSelfSpec).bare Rows.fnRustSelfUptoRow = true := by kernel_rfl
theorem named : Tryz.pinned.checked.prog.funcNamed Rows.fnRustSelfUptoRow.func = some 6 := by kernel_rfl
theorem inst : Tryz.f6.isInstance Tryz.pinned.checked.prog Rows.fnRustSelfUptoRow.origin Rows.fnRustSelfUptoRow.targs := of_decide_eq_true (by kernel_rfl)
theorem wrap : Tryz.f6.isWrapper Tryz.pinned.checked.prog Rows.fnRustSelfUptoRow.wrapper Rows.fnRustSelfUptoRow.mainSum := by
  unfold Func.isWrapper
  first | (rw [if_pos (by decide +kernel)]; kernel_rfl) | (rw [if_neg (by decide +kernel)]; exact ⟨rfl, rfl⟩)

end Go.Proofs.YtidokamjbglkbaaGreatDoor.lawFnRustSelf
