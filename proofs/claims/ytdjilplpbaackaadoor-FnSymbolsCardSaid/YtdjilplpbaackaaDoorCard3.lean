/- The tied card of FnSymbols: for every input the law returns true and leaves its arguments as they were. Conditions: the listed variables read as the program's text lays them. -/
import Derived.Test.YtdjilplpbaackaaDoorRow3
import Derived.Test.YtdjilplpbaackaaDoorCards
import Derived.Test.YtdjilplpbaackaaDoorTie
import Derived.SevenTiedAt
namespace Go.Proofs.YtdjilplpbaackaaDoor
open Go

theorem fnSymbols_card : Rows.FnSymbolsCardSaid :=
  Claim7.holds_tied_plain_at .later [] [.handle, .sentinel, .sentinel] true (true, "8bcdec333fd406b6dc1bed759c4e0228f65f79dc27b4caca4a251624b860347a") true
    Eng.row3 (fun _ h => by cases h) (by kernel_rfl) (fun _ h => by cases h) fnSymbols_row_tie rfl ⟨rfl, rfl⟩ (by kernel_rfl) rfl
    (fun f fn hf hfn => by
      obtain rfl : f = 3 := Option.some.inj ((show Tryd.prog.funcNamed "jpegcodec/laws.FnSymbols" = some 3 by kernel_rfl).symm.trans hf) |>.symm
      obtain rfl : fn = Tryd.f3 := (Option.some.inj (Tryd.func3.symm.trans hfn)).symm
      exact ⟨by kernel_rfl, fun j t ht => by
        rw [Tryd.params3] at ht
        have h3 : t = 22 ∨ t = 3 := by
          rcases j with _ | _ | _ | _ | _ | j <;> simp at ht <;> first | exact .inl ht.symm | exact .inr ht.symm
        rcases h3 with rfl | rfl
        · exact (show Tryd.prog.wantsStandIn 22 = false by kernel_rfl)
        · exact (show Tryd.prog.wantsStandIn 3 = false by kernel_rfl)⟩)
    (by kernel_rfl)
#print axioms fnSymbols_card
end Go.Proofs.YtdjilplpbaackaaDoor
