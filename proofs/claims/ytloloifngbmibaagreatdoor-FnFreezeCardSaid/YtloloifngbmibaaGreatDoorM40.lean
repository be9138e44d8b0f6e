/- The closed facts of FnFreeze's row, each a lemma of its own. -/
import Derived.Test.YtloloifngbmibaaGreatDoorRows
import Derived.JoinedOf
import Derived.KernelRfl
namespace Go.Proofs.YtloloifngbmibaaGreatDoor.fnFreeze
set_option linter.unusedVariables false

set_option maxHeartbeats 100000000 in
/-- The row's closed facts, each a lemma of its own. -/
theorem closed : joinedFacts Tryz.pinned.checked.prog 4 Tryz.f4 (OpenSpec.ofChange Rows.fnFreezeSpec).bare Rows.fnFreezeRow = true := by
  unfold joinedFacts
  simp only [Bool.and_eq_true]
  repeat' (with_reducible apply And.intro)
  all_goals as_aux_lemma => kernel_rfl
end Go.Proofs.YtloloifngbmibaaGreatDoor.fnFreeze
