/- The closed facts of FnAsInt's row, each a lemma of its own. -/
import Derived.Test.YtloloifngbmibaaGreatDoorRows
import Derived.JoinedOf
import Derived.KernelRfl
namespace Go.Proofs.YtloloifngbmibaaGreatDoor.fnAsInt
set_option linter.unusedVariables false

set_option maxHeartbeats 100000000 in
/-- The row's closed facts, each a lemma of its own. -/
theorem closed : joinedFacts Tryz.pinned.checked.prog 3 Tryz.f3 (OpenSpec.ofChange Rows.fnAsIntSpec).bare Rows.fnAsIntRow = true := by
  unfold joinedFacts
  simp only [Bool.and_eq_true]
  repeat' (with_reducible apply And.intro)
  all_goals as_aux_lemma => kernel_rfl
end Go.Proofs.YtloloifngbmibaaGreatDoor.fnAsInt
