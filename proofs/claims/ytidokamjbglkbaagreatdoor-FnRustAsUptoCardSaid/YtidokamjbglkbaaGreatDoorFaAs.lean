/- The row of FnRustAs: the facts about its function. -/
import Derived.Test.YtidokamjbglkbaaGreatDoorRows
import Derived.Test.YtidokamjbglkbaaGreatDoorCards
import Derived.JoinedCond
import Derived.KernelRfl
namespace Go.Proofs.YtidokamjbglkbaaGreatDoor.lawFnRustAs

theorem closed : joinedFacts Tryz.pinned.checked.prog 5 Tryz.f5 (Rows.OpenSpec.upto Rows.fnRustAsSpec).bare Rows.fnRustAsUptoRow = true := by kernel_rfl
theorem named : Tryz.pinned.checked.prog.funcNamed Rows.fnRustAsUptoRow.func = some 5 := by kernel_rfl
theorem inst : Tryz.f5.isInstance Tryz.pinned.checked.prog Rows.fnRustAsUptoRow.origin Rows.fnRustAsUptoRow.targs := of_decide_eq_true (by kernel_rfl)
theorem wrap : Tryz.f5.isWrapper Tryz.pinned.checked.prog Rows.fnRustAsUptoRow.wrapper Rows.fnRustAsUptoRow.mainSum := by
  unfold Func.isWrapper
  first | (rw [if_pos (by decide +kernel)]; kernel_rfl) | (rw [if_neg (by decide +kernel)]; exact ⟨rfl, rfl⟩)

end Go.Proofs.YtidokamjbglkbaaGreatDoor.lawFnRustAs
