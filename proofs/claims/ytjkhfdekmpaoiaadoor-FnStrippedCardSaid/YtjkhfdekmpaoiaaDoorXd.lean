/- The tied card of FnStripped: for every node that can be read, Unparen strips the parentheses around the expression that is made of it, and no others: the law returns true and the node reads as it did. Conditions: the four listed package-level variables start as the program's text lays them (tied to the pruned copy of the project's text: nothing is said of what its other packages, commands or tests write). -/
import Derived.Test.YtjkhfdekmpaoiaaDoorRows
import Derived.Test.YtjkhfdekmpaoiaaDoorTie
import Derived.Test.YtjkhfdekmpaoiaaDoorCards
import Derived.Test.YtjkhfdekmpaoiaaDoorXb
import Derived.SevenTiedAt
namespace Go.Proofs.YtjkhfdekmpaoiaaDoor
open Go

/-- The tied card. -/
theorem fnStripped_card : Rows.FnStrippedCardSaid :=
  Claim7.holds_tied_plain_at .later [] [.data, .data, .data, .data] true (true, "ef036f63c5a986b76253e8a25dad148628c4f80fe501b912fd5ca6e1a58df626") true
    fnStripped_row (fun _ h => by cases h) (by kernel_rfl) (fun _ h => by cases h) fnStripped_row_tie rfl ⟨rfl, rfl⟩ (by kernel_rfl) rfl
    (fun f fn hf hfn => by
      obtain rfl : f = 3 := Option.some.inj ((show Tryd.prog.funcNamed "loop.example/pub-g01447/laws.FnStripped" = some 3 by kernel_rfl).symm.trans hf) |>.symm
      obtain rfl : fn = Tryd.f3 := (Option.some.inj (Tryd.func3.symm.trans hfn)).symm
      exact ⟨by kernel_rfl, fun j t ht => by
        rw [Tryd.params3] at ht
        have h3 : t = 24 := by
          rcases j with _ | j
          · simpa using ht.symm
          · simp at ht
        subst h3
        exact (show Tryd.prog.wantsStandIn 24 = false by kernel_rfl)⟩)
    (by kernel_rfl)
#print axioms fnStripped_card
end Go.Proofs.YtjkhfdekmpaoiaaDoor
