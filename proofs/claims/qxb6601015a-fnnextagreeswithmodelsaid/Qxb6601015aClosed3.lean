/-
  THE CLOSED FACTS of the row of function 3, one by one (together they outgrow the kernel's memory lid).
-/
import Derived.Test.Qxb6601015aRows
import Derived.JoinedOf
import Derived.KernelRfl
namespace Go.Proofs.Qxb6601015a.C3
open Go

theorem and2 {a b : Bool} (ha : a = true) (hb : b = true) : (a && b) = true := by rw [ha, hb]; rfl

set_option maxRecDepth 100000 in
set_option maxHeartbeats 8000000 in
theorem closed : joinedFacts Try.prog 3 Try.f3 Rows.fnNextAgreesWithModelSpec Rows.fnNextAgreesWithModelRow = true := by
  unfold joinedFacts
  refine and2 (and2 (and2 (and2 (and2 (and2 (and2 (and2 (and2 (and2 (and2 (and2 (and2 (and2 (and2 (and2 (and2 (and2 (and2 (and2 (and2 (and2 (and2 (and2 (and2 (and2 (and2 (and2 (and2 (and2 (and2 ?_ ?_) ?_) ?_) ?_) ?_) ?_) ?_) ?_) ?_) ?_) ?_) ?_) ?_) ?_) ?_) ?_) ?_) ?_) ?_) ?_) ?_) ?_) ?_) ?_) ?_) ?_) ?_) ?_) ?_) ?_) ?_
  all_goals as_aux_lemma => kernel_rfl
end Go.Proofs.Qxb6601015a.C3
