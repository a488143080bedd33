/- The tied card of FnUnpacked: for every list of nodes that can be read, a list of the expressions that are made of them is unpacked into them: the law returns true and the list reads as it did. Conditions: the four listed package-level variables start as the program's text lays them (tied to the pruned copy of the project's text: nothing is said of what its other packages, commands or tests write). -/
import Derived.Test.YtjkhfdekmpaoiaaDoorRows
import Derived.Test.YtjkhfdekmpaoiaaDoorTie
import Derived.Test.YtjkhfdekmpaoiaaDoorCards
import Derived.Test.YtjkhfdekmpaoiaaDoorXc
import Derived.SevenTiedAt
namespace Go.Proofs.YtjkhfdekmpaoiaaDoor
open Go

/-- The tied card. -/
theorem fnUnpacked_card : Rows.FnUnpackedCardSaid :=
  Claim7.holds_tied_plain_at .later [] [.data, .data, .data, .data] true (true, "ef036f63c5a986b76253e8a25dad148628c4f80fe501b912fd5ca6e1a58df626") true
    fnUnpacked_row (fun _ h => by cases h) (by kernel_rfl) (fun _ h => by cases h) fnUnpacked_row_tie rfl ⟨rfl, rfl⟩ (by kernel_rfl) rfl
    (fun f fn hf hfn => by
      obtain rfl : f = 4 := Option.some.inj ((show Tryd.prog.funcNamed "loop.example/pub-g01447/laws.FnUnpacked" = some 4 by kernel_rfl).symm.trans hf) |>.symm
      obtain rfl : fn = Tryd.f4 := (Option.some.inj (Tryd.func4.symm.trans hfn)).symm
      exact ⟨by kernel_rfl, fun j t ht => by
        rw [Tryd.params4] at ht
        have h3 : t = 22 := by
          rcases j with _ | j
          · simpa using ht.symm
          · simp at ht
        subst h3
        exact (show Tryd.prog.wantsStandIn 22 = false by kernel_rfl)⟩)
    (by kernel_rfl)
#print axioms fnUnpacked_card
end Go.Proofs.YtjkhfdekmpaoiaaDoor
