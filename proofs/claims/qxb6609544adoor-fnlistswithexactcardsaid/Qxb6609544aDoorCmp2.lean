import Derived.Test.Qxb6609544aDoorCmp
import Derived.Test.Qxb6609544aDoorQuiet
namespace Go.Proofs.Qxb6609544aDoor
open Go.RowKit Go.Sort

set_option maxHeartbeats 4000000 in
theorem compare (x y : Ad) (pz : Addr) (w : World) (hz : Zs pz w) :
    Calls Tryd.prog 50 #[.agg (x.net pz).toArray, .agg (y.net pz).toArray] w fun e w' => e = .returned (.int .i64 (cmpN (lo x) (lo y))) ∧ Gr w w' := by
  have b1 := fun W hW => bitLen x pz W hW
  have b2 := fun W hW => bitLen y pz W hW
  have b3 := fun W hW => is6 x pz W hW
  simp only [Ad.net] at *
  have B1 := hide b1
  have B2 := hide b2
  have B3 := hide b3
  have HZ := hide hz
  have hm := mixed
  have hq := cellQ
  clear b1 b2 b3 hz
  generalize lo x = p at *
  generalize lo y = q at *
  by_cases hlt : p < q
  · rw [cmpN_lt hlt]
    go_enter Tryd.func50, Tryd.ntmps50
    go_wp2
    refine wp_region_quiet_grown hm (by kernel_rfl) ?_
    repeat (quiet_step (first
      | (go_at_call_of 57 p; exact callsQ (B1.out _ (HZ.out.gr ((((Gr.refl w).alloc _).alloc _).trans (Gr.of _ _ _)))))
      | (go_at_call_of 57 q; exact callsQ (B2.out _ (HZ.out.gr ((((Gr.refl w).alloc _).alloc _).trans (Gr.of _ _ _)))))))
    refine wpQuiet_nil ?_
    intro w1 hw1
    have g1 := Gr.ofEx hw1
    clear hw1
    obtain ⟨hc1, hf1⟩ := g1.rules
    go_wp2
    go_quiet (fail)
    go_wp2
    go_quiet (fail)
    go_wp2
    go_ret
    exact ⟨rfl, (((Gr.refl w).alloc _).alloc _).trans (by first | exact (g1.drewN _).drewN _ | exact g1.drewN _)⟩
  by_cases hgt : q < p
  · rw [cmpN_gt hgt]
    go_enter Tryd.func50, Tryd.ntmps50
    go_wp2
    refine wp_region_quiet_grown hm (by kernel_rfl) ?_
    repeat (quiet_step (first
      | (go_at_call_of 57 p; exact callsQ (B1.out _ (HZ.out.gr ((((Gr.refl w).alloc _).alloc _).trans (Gr.of _ _ _)))))
      | (go_at_call_of 57 q; exact callsQ (B2.out _ (HZ.out.gr ((((Gr.refl w).alloc _).alloc _).trans (Gr.of _ _ _)))))))
    refine wpQuiet_nil ?_
    intro w1 hw1
    have g1 := Gr.ofEx hw1
    clear hw1
    obtain ⟨hc1, hf1⟩ := g1.rules
    go_wp2
    go_quiet (fail)
    go_wp2
    go_quiet (fail)
    go_wp2
    go_ret
    exact ⟨rfl, (((Gr.refl w).alloc _).alloc _).trans (by first | exact (g1.drewN _).drewN _ | exact g1.drewN _)⟩
  · rw [cmpN_eq (by omega)]
    go_enter Tryd.func50, Tryd.ntmps50
    go_wp2
    refine wp_region_quiet_grown hm (by kernel_rfl) ?_
    repeat (quiet_step (first
      | (go_at_call_of 57 p; exact callsQ (B1.out _ (HZ.out.gr ((((Gr.refl w).alloc _).alloc _).trans (Gr.of _ _ _)))))
      | (go_at_call_of 57 q; exact callsQ (B2.out _ (HZ.out.gr ((((Gr.refl w).alloc _).alloc _).trans (Gr.of _ _ _)))))))
    refine wpQuiet_nil ?_
    intro w1 hw1
    have g1 := Gr.ofEx hw1
    clear hw1
    obtain ⟨hc1, hf1⟩ := g1.rules
    go_wp2
    go_quiet (fail)
    go_wp2
    go_quiet (fail)
    go_wp2_with fail
    refine (B3.out _ ?_).mono ?_
    · exact HZ.out.gr ((((Gr.refl w).alloc _).alloc _).trans (by first | exact g1.drewN _ | exact (g1.drewN _).drewN _))
    rintro e w2 ⟨rfl, g2⟩
    go_wp2
    go_ret
    exact ⟨rfl, ((((Gr.refl w).alloc _).alloc _).trans (by first | exact (g1.drewN _).drewN _ | exact g1.drewN _)).trans g2⟩
end Go.Proofs.Qxb6609544aDoor
