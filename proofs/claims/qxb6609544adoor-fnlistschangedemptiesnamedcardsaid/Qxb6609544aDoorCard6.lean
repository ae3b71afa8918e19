/- The card of law 6 over its contract. -/
import Derived.Test.Qxb6609544aDoorRowF
import Derived.Test.Qxb6609544aDoorTie
import Derived.Test.Qxb6609544aDoorCards
import Derived.SevenTiedAt
namespace Go.Proofs.Qxb6609544aDoor
open Go
set_option maxRecDepth 100000

theorem card6 (C : LawC 6) : Rows.FnListsChangedEmptiesNamedCardSaid :=
  Claim7.holds_tied_plain_at .later [] [.called, .zero] true (true, "530557e517d668005acbdcb70e8b7827b6231977fde6abf6170b851619305959") false
    (over6 C) (fun _ h => by cases h) (by kernel_rfl) (fun _ h => by cases h) fnListsChangedEmptiesNamed_row_tie rfl ⟨rfl, rfl⟩ (by kernel_rfl) rfl
    (fun f fn hf hfn => by
      obtain rfl : f = 6 := Option.some.inj ((show Tryd.prog.funcNamed Rows.fnListsChangedEmptiesNamedRow.func = some 6 by kernel_rfl).symm.trans hf) |>.symm
      obtain rfl : fn = Tryd.f6 := (Option.some.inj (Tryd.func6.symm.trans hfn)).symm
      exact ⟨by kernel_rfl, fun j t ht => by
        rw [Tryd.params6] at ht
        have h3 : t = 22 ∨ t = 9 ∨ t = 37 := by
          rcases j with _ | _ | _ | _ | j
          · exact Or.inl (by simpa using ht.symm)
          · exact Or.inl (by simpa using ht.symm)
          · exact Or.inr (Or.inl (by simpa using ht.symm))
          · exact Or.inr (Or.inr (by simpa using ht.symm))
          · simp at ht
        rcases h3 with rfl | rfl | rfl
        · exact (show Tryd.prog.wantsStandIn 22 = false by kernel_rfl)
        · exact (show Tryd.prog.wantsStandIn 9 = false by kernel_rfl)
        · exact (show Tryd.prog.wantsStandIn 37 = false by kernel_rfl)⟩)
    (by kernel_rfl)
end Go.Proofs.Qxb6609544aDoor
