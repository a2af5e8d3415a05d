/-
  For every list of declarations, all pairs of types and every number of type parameters, the call of laws.FnClosed returns true, and each argument reads afterwards as it read before.
  The conditions are those of the given statement: the listed tables of package unicode and unicode/utf8 read, when the call begins, as the program's text lays them (the card ties this to the text; three of them are pinned tables of Go's library), and each slice, string and map of the input takes at most 2^47 - 4096 bytes.
-/
import Derived.Test.YtjilnjifegeceaaGreatDoorTie
import Derived.Test.YtjilnjifegeceaaGreatDoorCards
import Derived.ProofKit
import Derived.OpenShut
import Derived.LaidMore
import Derived.Lay
import Derived.SevenTiedAt
import Derived.Stop.Joined
import Derived.Test.YtjilnjifegeceaaGreatDoorFnClosedPartU
namespace Go.Proofs.YtjilnjifegeceaaGreatDoor
open Go.ChangeShapes Go.RowKit
set_option maxRecDepth 100000

theorem fnClosed_card : Rows.FnClosedCardSaid :=
  Claim7.holds_tied_plain_at .later [] [.data, .data, .data, .data, .pinned, .pinned, .pinned] true (true, "7d2908aaae898860b11fe945ce9da0fa5901d79a6419ece5c69aa3815f6f8806") true fnClosed_row (fun _ h => by cases h) (by kernel_rfl) (fun _ h => by cases h) fnClosed_row_tie rfl ⟨rfl, rfl⟩ (by kernel_rfl) rfl
    (fun f fn hf hfn => by
      obtain rfl : f = 6 := Option.some.inj ((show Tryz.prog.funcNamed "unisons/laws.FnClosed" = some 6 by kernel_rfl).symm.trans hf) |>.symm
      obtain rfl : fn = Tryz.f6 := (Option.some.inj (Tryz.func6.symm.trans hfn)).symm
      exact ⟨by kernel_rfl, fun j t ht => by
        rw [Tryz.params6] at ht
        have hm : t ∈ [22, 26, 26, 3] := by simpa using Array.mem_of_getElem? ht
        have hall : ([22, 26, 26, 3].all fun u => !Tryz.prog.wantsStandIn u) = true := by kernel_rfl
        exact (show Tryz.prog.wantsStandIn t = false by simpa using List.all_eq_true.1 hall t hm)⟩)
    (by kernel_rfl)
#print axioms fnClosed_card
end Go.Proofs.YtjilnjifegeceaaGreatDoor
