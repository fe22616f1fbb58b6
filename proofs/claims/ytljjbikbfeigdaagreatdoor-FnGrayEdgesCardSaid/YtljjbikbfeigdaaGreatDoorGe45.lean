/- FnGrayEdges: for every input the call returns true, and the input reads behind the call as it read before; the package variables that the row lists hold what the program's text lays (the card ties them). -/
import Derived.Test.YtljjbikbfeigdaaGreatDoorGe44
import Derived.Test.YtljjbikbfeigdaaGreatDoorTie
import Derived.Test.YtljjbikbfeigdaaGreatDoorCards
import Derived.SevenTiedAt
set_option linter.all false
namespace Go.Proofs.YtljjbikbfeigdaaGreatDoor
noncomputable section
open Go
theorem fnGrayEdges_card : Rows.FnGrayEdgesCardSaid :=
  Claim7.holds_tied_plain_at .later [] [.data, .data, .handle, .data, .data, .data] true (true, "977f8b3d36f08ad5ecfe52211fd5863dd3e3b83d416ebc4a6795e26478be98c3") true
    fnGrayEdges_holds (fun _ h => by cases h) (by kernel_rfl) (fun _ h => by cases h) fnGrayEdges_row_tie rfl ⟨rfl, rfl⟩ (by kernel_rfl) rfl
    (fun f fn hf hfn => by
      obtain rfl : f = 5 := Option.some.inj ((show Tryz.prog.funcNamed "jpegcodec/laws.FnGrayEdges" = some 5 by kernel_rfl).symm.trans hf) |>.symm
      obtain rfl : fn = Tryz.f5 := (Option.some.inj (Tryz.func5.symm.trans hfn)).symm
      exact ⟨by kernel_rfl, fun j t ht => by
        rw [Tryz.params5] at ht
        have h3 : t = 22 ∨ t = 3 := by
          rcases j with _ | _ | _ | _ | j
          · exact .inl (by simpa using ht.symm)
          · exact .inr (by simpa using ht.symm)
          · exact .inr (by simpa using ht.symm)
          · exact .inr (by simpa using ht.symm)
          · simp at ht
        rcases h3 with rfl | rfl
        · exact (show Tryz.prog.wantsStandIn 22 = false by kernel_rfl)
        · exact (show Tryz.prog.wantsStandIn 3 = false by kernel_rfl)⟩)
    (by kernel_rfl)
#print axioms fnGrayEdges_card
end
end Go.Proofs.YtljjbikbfeigdaaGreatDoor
