/-
  A part of the proof that laws.FnClosed returns true at every input: the walk's own rules and the contracts of functions, in build order.
  Its conditions are those of the statement: see the last text.
-/
import Derived.Test.YtjilnjifegeceaaGreatDoorTie
import Derived.Test.YtjilnjifegeceaaGreatDoorCards
import Derived.ProofKit
import Derived.OpenShut
import Derived.LaidMore
import Derived.Lay
import Derived.SevenTiedAt
import Derived.Stop.Joined
import Derived.Test.YtjilnjifegeceaaGreatDoorFnClosedPartT

/-
  FnClosed: the row.
-/
namespace Go.Proofs.YtjilnjifegeceaaGreatDoor
open Go.ChangeShapes Go.RowKit
set_option maxRecDepth 100000
set_option maxHeartbeats 8000000

theorem fnClosed_closed : joinedFacts Tryz.prog 6 Tryz.f6 Rows.fnClosedSpec Rows.fnClosedRow = true := by
  unfold joinedFacts
  simp only [Bool.and_eq_true]
  and_intros
  all_goals (as_aux_lemma => kernel_rfl)

theorem fnClosed_row : Rows.FnClosedSaid :=
  OpenClaim.holds_of_wide 6 Tryz.f6 rfl rfl rfl rfl rfl rfl rfl ⟨rfl, rfl, rfl, rfl, rfl⟩ rfl rfl rfl rfl rfl (by kernel_rfl) Tryz.func6 fnClosed_closed
    (of_decide_eq_true (by kernel_rfl)) (by unfold Func.isWrapper; first | (rw [if_pos (by decide +kernel)]; kernel_rfl) | (rw [if_neg (by decide +kernel)]; exact ⟨rfl, rfl⟩))
    (fun os started H enc _ => fnClosed_lifted os started H enc)

end Go.Proofs.YtjilnjifegeceaaGreatDoor
