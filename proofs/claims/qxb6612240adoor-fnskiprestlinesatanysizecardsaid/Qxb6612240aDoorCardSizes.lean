import Derived.Test.Qxb6612240aDoorRowSizes
import Derived.Test.Qxb6612240aDoorTie
import Derived.Test.Qxb6612240aDoorCards
import Derived.SevenTiedAt
namespace Go.Proofs.Qxb6612240aDoor.fnSkipRestLinesAtAnySize
open Go

/-- ████ THE TIED CARD -/
theorem card_holds : Rows.FnSkipRestLinesAtAnySizeCardSaid :=
  Claim7.holds_tied_plain_at .later [] [.sentinel, .sentinel, .sentinel, .sentinel] true (true, "3877b9b5ae345a3559bfbf195e26db18f7f753936101eab77f932ca6f491360e") true
    row_holds (fun _ h => by cases h) (by kernel_rfl) (fun _ h => by cases h) fnSkipRestLinesAtAnySize_row_tie rfl ⟨rfl, rfl⟩ (by kernel_rfl) rfl
    (fun f fn hf hfn => by
      obtain rfl : f = 4 := Option.some.inj ((show Tryd.prog.funcNamed "example.com/regather/regather/zzlaws_root_b1.FnSkipRestLinesAtAnySize" = some 4 by kernel_rfl).symm.trans hf) |>.symm
      obtain rfl : fn = Tryd.f4 := (Option.some.inj (Tryd.func4.symm.trans hfn)).symm
      exact ⟨by kernel_rfl, fun j t ht => by
        rw [Tryd.params4] at ht
        rcases j with _ | j
        · obtain rfl : t = 22 := by simpa using ht.symm
          exact (show Tryd.prog.wantsStandIn 22 = false by kernel_rfl)
        · rcases j with _ | j
          · obtain rfl : t = 3 := by simpa using ht.symm
            exact (show Tryd.prog.wantsStandIn 3 = false by kernel_rfl)
          · rcases j with _ | j
            · obtain rfl : t = 3 := by simpa using ht.symm
              exact (show Tryd.prog.wantsStandIn 3 = false by kernel_rfl)
            · rcases j with _ | j
              · obtain rfl : t = 3 := by simpa using ht.symm
                exact (show Tryd.prog.wantsStandIn 3 = false by kernel_rfl)
              · simp at ht⟩)
    (by kernel_rfl)
#print axioms card_holds
end Go.Proofs.Qxb6612240aDoor.fnSkipRestLinesAtAnySize
