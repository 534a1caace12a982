/-
  THE CLOSED FACTS OF 'Rows.FnCheckEntriesJoinsAtAnyCutSaid', one at a time: each a lemma of its own.
-/
import Derived.Test.Qxb6616790aDoorRows
import Derived.JoinedOf
import Derived.KernelRfl
namespace Go.Proofs.Qxb6616790aDoor.fnCheckEntriesJoinsAtAnyCut

theorem both {a b : Bool} (ha : a = true) (hb : b = true) : (a && b) = true := by rw [ha, hb]; rfl

set_option maxHeartbeats 4000000 in
theorem facts : joinedFacts Tryd.prog 3 Tryd.f3 Rows.fnCheckEntriesJoinsAtAnyCutSpec Rows.fnCheckEntriesJoinsAtAnyCutRow = true := by
  unfold joinedFacts
  repeat' with_reducible refine both ?_ ?_
  all_goals as_aux_lemma => kernel_rfl
end Go.Proofs.Qxb6616790aDoor.fnCheckEntriesJoinsAtAnyCut
