/- The tied card of FnSymbolsBack: for every input the law returns true and leaves its arguments as they were. Conditions: the listed variables read as the program's text lays them. -/
import Derived.Test.YtdjilplpbaackaaDoorRow4
import Derived.Test.YtdjilplpbaackaaDoorCards
import Derived.Test.YtdjilplpbaackaaDoorTie
import Derived.SevenTiedAt
namespace Go.Proofs.YtdjilplpbaackaaDoor
open Go

theorem fnSymbolsBack_card : Rows.FnSymbolsBackCardSaid :=
  Claim7.holds_tied_plain_at .later [] [.handle, .sentinel, .sentinel] true (true, "8bcdec333fd406b6dc1bed759c4e0228f65f79dc27b4caca4a251624b860347a") true
    Eng.row4 (fun _ h => by cases h) (by kernel_rfl) (fun _ h => by cases h) fnSymbolsBack_row_tie rfl ⟨rfl, rfl⟩ (by kernel_rfl) rfl
    (fun f fn hf hfn => by
      obtain rfl : f = 4 := Option.some.inj ((show Tryd.prog.funcNamed "jpegcodec/laws.FnSymbolsBack" = some 4 by kernel_rfl).symm.trans hf) |>.symm
      obtain rfl : fn = Tryd.f4 := (Option.some.inj (Tryd.func4.symm.trans hfn)).symm
      exact ⟨by kernel_rfl, fun j t ht => by
        rw [Tryd.params4] at ht
        have h3 : t = 22 ∨ t = 29 := by
          rcases j with _ | _ | _ | j <;> simp at ht <;> first | exact .inl ht.symm | exact .inr ht.symm
        rcases h3 with rfl | rfl
        · exact (show Tryd.prog.wantsStandIn 22 = false by kernel_rfl)
        · exact (show Tryd.prog.wantsStandIn 29 = false by kernel_rfl)⟩)
    (by kernel_rfl)
#print axioms fnSymbolsBack_card
end Go.Proofs.YtdjilplpbaackaaDoor
