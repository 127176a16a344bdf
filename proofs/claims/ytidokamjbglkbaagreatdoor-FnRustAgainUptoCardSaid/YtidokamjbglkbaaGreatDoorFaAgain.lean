/- The row of FnRustAgain: the facts about its function. -/
import Derived.Test.YtidokamjbglkbaaGreatDoorRows
import Derived.Test.YtidokamjbglkbaaGreatDoorCards
import Derived.JoinedCond
import Derived.KernelRfl
namespace Go.Proofs.YtidokamjbglkbaaGreatDoor.lawFnRustAgain

theorem closed : joinedFacts Tryz.pinned.checked.prog 3 Tryz.f3 (Rows.OpenSpec.upto Rows.fnRustAgainSpec).bare Rows.fnRustAgainUptoRow = true := by kernel_rfl
theorem named : Tryz.pinned.checked.prog.funcNamed Rows.fnRustAgainUptoRow.func = some 3 := by kernel_rfl
theorem inst : Tryz.f3.isInstance Tryz.pinned.checked.prog Rows.fnRustAgainUptoRow.origin Rows.fnRustAgainUptoRow.targs := of_decide_eq_true (by kernel_rfl)
theorem wrap : Tryz.f3.isWrapper Tryz.pinned.checked.prog Rows.fnRustAgainUptoRow.wrapper Rows.fnRustAgainUptoRow.mainSum := by
  unfold Func.isWrapper
  first | (rw [if_pos (by decide +kernel)]; kernel_rfl) | (rw [if_neg (by decide +kernel)]; exact ⟨rfl, rfl⟩)

end Go.Proofs.YtidokamjbglkbaaGreatDoor.lawFnRustAgain
