/-
  PROVED HERE: 'Rows.FnEncodeCardSaid', the tied card of the law 'laws.FnEncode': whatever four arguments are handed to it, it returns true and leaves them as they were. Conditions: the card's own (the listed package-level variables hold what the program's text lays; the tie to the text is given).
-/
import Derived.Test.YtahmhofnilgfgaaDoorLM
import Derived.Test.YtahmhofnilgfgaaDoorCards
import Derived.Test.YtahmhofnilgfgaaDoorTie
import Derived.SevenTiedAt
set_option linter.unusedVariables false
set_option linter.unusedSimpArgs false
namespace Go.Proofs.YtahmhofnilgfgaaDoor
open Go

/-- The statement: the tied card. -/
theorem fnEncodeCard_holds : Rows.FnEncodeCardSaid :=
  Claim7.holds_tied_plain_at .later [] [.data, .data, .data] true (true, "75c4cfb5a6cbaf1a7ddc82404732ce1ed100572c7513b6339c35a72521d4455e") true
    fnEncode.over (fun _ h => by cases h) (by kernel_rfl) (fun _ h => by cases h) fnEncode_row_tie rfl ⟨rfl, rfl⟩ (by kernel_rfl) rfl
    (fun f fn hf hfn => by
      obtain rfl : f = 3 := Option.some.inj ((show Tryd.prog.funcNamed "loop.example/pub-g03469/laws.FnEncode" = some 3 by kernel_rfl).symm.trans hf) |>.symm
      obtain rfl : fn = Tryd.f3 := (Option.some.inj (Tryd.func3.symm.trans hfn)).symm
      exact ⟨by kernel_rfl, fun j t ht => by
        rw [Tryd.params3] at ht
        have h3 : t = 22 ∨ t = 5 ∨ t = 23 ∨ t = 4 := by
          rcases j with _ | _ | _ | _ | j
          · left; simpa using ht.symm
          · right; left; simpa using ht.symm
          · right; right; left; simpa using ht.symm
          · right; right; right; simpa using ht.symm
          · simp at ht
        rcases h3 with rfl | rfl | rfl | rfl
        · exact (show Tryd.prog.wantsStandIn 22 = false by kernel_rfl)
        · exact (show Tryd.prog.wantsStandIn 5 = false by kernel_rfl)
        · exact (show Tryd.prog.wantsStandIn 23 = false by kernel_rfl)
        · exact (show Tryd.prog.wantsStandIn 4 = false by kernel_rfl)⟩)
    (by kernel_rfl)
#print axioms fnEncodeCard_holds
end Go.Proofs.YtahmhofnilgfgaaDoor
