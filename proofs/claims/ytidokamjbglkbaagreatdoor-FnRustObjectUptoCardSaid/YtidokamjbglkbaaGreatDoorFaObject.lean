/- The row of FnRustObject: the facts about its function. -/
import Derived.Test.YtidokamjbglkbaaGreatDoorRows
import Derived.Test.YtidokamjbglkbaaGreatDoorCards
import Derived.JoinedCond
import Derived.KernelRfl
namespace Go.Proofs.YtidokamjbglkbaaGreatDoor.lawFnRustObject

theorem closed : joinedFacts Tryz.pinned.checked.prog 4 Tryz.f4 (Rows.OpenSpec.upto Rows.fnRustObjectSpec).bare Rows.fnRustObjectUptoRow = true := by kernel_rfl
theorem named : Tryz.pinned.checked.prog.funcNamed Rows.fnRustObjectUptoRow.func = some 4 := by kernel_rfl
theorem inst : Tryz.f4.isInstance Tryz.pinned.checked.prog Rows.fnRustObjectUptoRow.origin Rows.fnRustObjectUptoRow.targs := of_decide_eq_true (by kernel_rfl)
theorem wrap : Tryz.f4.isWrapper Tryz.pinned.checked.prog Rows.fnRustObjectUptoRow.wrapper Rows.fnRustObjectUptoRow.mainSum := by
  unfold Func.isWrapper
  first | (rw [if_pos (by decide +kernel)]; kernel_rfl) | (rw [if_neg (by decide +kernel)]; exact ⟨rfl, rfl⟩)

end Go.Proofs.YtidokamjbglkbaaGreatDoor.lawFnRustObject
