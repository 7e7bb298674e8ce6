/-
  THE CLOSED FACTS OF ONE ROW, a fact a lemma: the kernel gives its memory back behind each.
-/
import Derived.Test.Qxb6602564aHead
namespace Go.Proofs.Qxb6602564a
set_option maxHeartbeats 4000000 in
theorem Levels_closed : joinedFacts Try.prog 9 Try.f9 Rows.fnLayerIsShortestChainByLevelsSpec Rows.fnLayerIsShortestChainByLevelsRow = true := by
  have h1 : (Rows.fnLayerIsShortestChainByLevelsRow.lifted == Try.prog.liftsFinal) = true := by rw [head_final]; rfl
  have h2 : (Try.prog.make == some Rows.fnLayerIsShortestChainByLevelsRow.make) = true := by rw [head_make]; rfl
  have h3 := head_enter
  unfold joinedFacts
  repeat' with_reducible apply and_mk
  all_goals first | with_reducible exact h1 | with_reducible exact h2 | with_reducible exact h3 | (clear h1 h2 h3; as_aux_lemma => kernel_rfl)
end Go.Proofs.Qxb6602564a
