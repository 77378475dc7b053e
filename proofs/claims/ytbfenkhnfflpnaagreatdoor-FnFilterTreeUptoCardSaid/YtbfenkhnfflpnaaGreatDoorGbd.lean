/- Lemmas for FnFilterTree; each condition stands in its statement. -/
import Derived.Test.YtbfenkhnfflpnaaGreatDoorCards
import Derived.JoinedOf
namespace Go.Proofs.YtbfenkhnfflpnaaGreatDoor.Sx
open Go
set_option maxRecDepth 100000
set_option maxHeartbeats 40000000
set_option linter.all false
theorem lawNamed : Tryz.pinned.checked.prog.funcNamed Rows.fnFilterTreeUptoRow.func = some 3 := by kernel_rfl
theorem lawFacts : joinedFacts Tryz.pinned.checked.prog 3 Tryz.f3 (Rows.OpenSpec.upto Rows.fnFilterTreeSpec).bare Rows.fnFilterTreeUptoRow = true := by
 unfold joinedFacts
 repeat' refine (Bool.and_eq_true _ _).mpr ⟨?_, ?_⟩
 all_goals as_aux_lemma => kernel_rfl
theorem lawInst : Tryz.f3.isInstance Tryz.pinned.checked.prog Rows.fnFilterTreeUptoRow.origin Rows.fnFilterTreeUptoRow.targs := of_decide_eq_true (by kernel_rfl)
theorem lawWrap : Tryz.f3.isWrapper Tryz.pinned.checked.prog Rows.fnFilterTreeUptoRow.wrapper Rows.fnFilterTreeUptoRow.mainSum := by
 unfold Func.isWrapper
 first
  | (rw [if_pos (by decide +kernel)]; kernel_rfl)
  | (rw [if_neg (by decide +kernel)]; exact ⟨rfl, rfl⟩)
