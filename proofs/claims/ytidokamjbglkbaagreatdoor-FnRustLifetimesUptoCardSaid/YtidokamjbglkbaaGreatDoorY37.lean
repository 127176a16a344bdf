/- The worlds between two calls. -/
import Derived.Test.YtidokamjbglkbaaGreatDoorY36
namespace Go.Proofs.YtidokamjbglkbaaGreatDoor
open Go.RowKit

theorem firm_true : Firm fun _ => True := fun _ _ _ _ => trivial
/-- The worlds between two calls that leave what lies there. -/
abbrev Sta0 (w0 : World) (w : World) : Prop := Sta w0 (fun _ => True) w
theorem Sta.same {w0 w : World} {P : World → Prop} (h : Sta w0 P w) (k : Nat) (hk : k < w0.heap.size) : w.heap[k]? = w0.heap[k]? := h.below.block k hk
theorem Sta0.alloc {w0 w : World} (h : Sta0 w0 w) (o : Obj) : Sta0 w0 (w.alloc o) := h.step firm_true ((Below.refl _ _).alloc (Nat.le_refl _) o)
theorem Sta0.go {w0 w w' : World} (h : Sta0 w0 w) (b : Below w.heap.size w w') : Sta0 w0 w' := h.step firm_true b
end Go.Proofs.YtidokamjbglkbaaGreatDoor

