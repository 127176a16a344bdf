/- The row of FnRustLifetimes: the facts about its function. -/
import Derived.Test.YtidokamjbglkbaaGreatDoorRows
import Derived.Test.YtidokamjbglkbaaGreatDoorCards
import Derived.JoinedCond
import Derived.KernelRfl
namespace Go.Proofs.YtidokamjbglkbaaGreatDoor.lawFnRustLifetimes

theorem closed : joinedFacts Tryz.pinned.checked.prog 8 Tryz.f8 (Rows.OpenSpec.upto Rows.fnRustLifetimesSpec).bare Rows.fnRustLifetimesUptoRow = true := by kernel_rfl
theorem named : Tryz.pinned.checked.prog.funcNamed Rows.fnRustLifetimesUptoRow.func = some 8 := by kernel_rfl
theorem inst : Tryz.f8.isInstance Tryz.pinned.checked.prog Rows.fnRustLifetimesUptoRow.origin Rows.fnRustLifetimesUptoRow.targs := of_decide_eq_true (by kernel_rfl)
theorem wrap : Tryz.f8.isWrapper Tryz.pinned.checked.prog Rows.fnRustLifetimesUptoRow.wrapper Rows.fnRustLifetimesUptoRow.mainSum := by
  unfold Func.isWrapper
  first | (rw [if_pos (by decide +kernel)]; kernel_rfl) | (rw [if_neg (by decide +kernel)]; exact ⟨rfl, rfl⟩)

end Go.Proofs.YtidokamjbglkbaaGreatDoor.lawFnRustLifetimes
