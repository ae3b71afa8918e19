/- The card of law 5 over its contract. -/
import Derived.Test.Qxb6609544aDoorRowG
import Derived.Test.Qxb6609544aDoorTie
import Derived.Test.Qxb6609544aDoorCards
import Derived.SevenTiedAt
namespace Go.Proofs.Qxb6609544aDoor
open Go
set_option maxRecDepth 100000

theorem card5 (C : LawC 5) : Rows.FnListsWithExactCardSaid :=
  Claim7.holds_tied_plain_at .later [] [.called, .zero] true (true, "530557e517d668005acbdcb70e8b7827b6231977fde6abf6170b851619305959") false
    (over5 C) (fun _ h => by cases h) (by kernel_rfl) (fun _ h => by cases h) fnListsWithExact_row_tie rfl ⟨rfl, rfl⟩ (by kernel_rfl) rfl
    (fun f fn hf hfn => by
      obtain rfl : f = 5 := Option.some.inj ((show Tryd.prog.funcNamed Rows.fnListsWithExactRow.func = some 5 by kernel_rfl).symm.trans hf) |>.symm
      obtain rfl : fn = Tryd.f5 := (Option.some.inj (Tryd.func5.symm.trans hfn)).symm
      exact ⟨by kernel_rfl, fun j t ht => by
        rw [Tryd.params5] at ht
        have h3 : t = 22 ∨ t = 9 ∨ t = 37 := by
          rcases j with _ | _ | _ | _ | j
          · exact Or.inl (by simpa using ht.symm)
          · exact Or.inl (by simpa using ht.symm)
          · exact Or.inr (Or.inl (by simpa using ht.symm))
          · exact Or.inr (Or.inr (by simpa using ht.symm))
          · simp at ht
        rcases h3 with rfl | rfl | rfl
        · exact (show Tryd.prog.wantsStandIn 22 = false by kernel_rfl)
        · exact (show Tryd.prog.wantsStandIn 9 = false by kernel_rfl)
        · exact (show Tryd.prog.wantsStandIn 37 = false by kernel_rfl)⟩)
    (by kernel_rfl)
end Go.Proofs.Qxb6609544aDoor
