import Derived.Test.Qxb6609544aDoorIn2
namespace Go.Proofs.Qxb6609544aDoor
open Go.RowKit Go.Sort

/-- A bool that, if true, says p. -/
def SaysB (p : Prop) (e : Ending) : Prop := ∃ b : Bool, e = .returned (.bool b) ∧ (b = true → p)
theorem saysB_no (p : Prop) : SaysB p (.returned (.bool false)) := ⟨false, rfl, by simp⟩
theorem saysB_any {p : Prop} (h : p) (b : Bool) : SaysB p (.returned (.bool b)) := ⟨b, rfl, fun _ => h⟩

set_option maxHeartbeats 4000000 in
theorem premise (sv tv : Value) (l m : List Rg) (st : ByteArray) (r : Rg) (hr : r.ok) (w : World) (h1 : IsSl w sv l) (h2 : IsSl w tv m) (hl : l.length ≤ maxLen) (hm : m.length ≤ maxLen) :
    Calls Tryd.prog 20 #[sv, tv, .string st, r.val] w fun e w' => SaysB ((st.toList == [97, 108, 108, 111, 119]) = true ∨ (st.toList == [100, 101, 110, 121]) = true) e ∧ Gr w w' := by
  have c1 := hide (fun W (g : Gr w W) => rangesOK sv l W (h1.gr g) hl)
  have c2 := hide (fun W (g : Gr w W) => rangesOK tv m W (h2.gr g) hm)
  have c3 := hide (fun W => cmp4 r.f r.l hr.1 hr.2 W)
  simp only [Ad.val] at c3
  clear h1 h2 hl hm hr
  simp only [Rg.val, Rg.cells]
  by_cases ha : (st.toList == [97, 108, 108, 111, 119]) = true
  · obtain ⟨p, hp⟩ : ∃ p : Prop, p = ((st.toList == [97, 108, 108, 111, 119]) = true ∨ (st.toList == [100, 101, 110, 121]) = true) := ⟨_, rfl⟩
    rw [← hp]
    have hp' : p := by rw [hp]; exact .inl ha
    have HP := hide hp'
    clear hp hp'
    go_enter Tryd.func20, Tryd.ntmps20
    go_wp2_with fail
    refine (c1.out _ ((Gr.refl w).alloc _)).mono ?_
    rintro e w1 ⟨⟨b1, rfl⟩, g1⟩
    cases b1
    · go_wp2
      go_ret
      exact ⟨saysB_no _, ((Gr.refl w).alloc _).trans g1⟩
    · go_wp2_with fail
      refine (c2.out _ (((Gr.refl w).alloc _).trans g1)).mono ?_
      rintro e w2 ⟨⟨b2, rfl⟩, g2⟩
      cases b2
      · go_wp2
        go_ret
        exact ⟨saysB_no _, ((Gr.refl w).alloc _).trans (g1.trans g2)⟩
      · obtain ⟨k1, k2⟩ := blkC (g2.blk (g1.blk (new1 w _)))
        go_wp2_with fail
        refine (c3.out _).mono ?_
        rintro e w3 ⟨rfl, g3⟩
        go_wp2
        all_goals
          go_ret
          exact ⟨saysB_any HP.out _, ((Gr.refl w).alloc _).trans (g1.trans (g2.trans g3))⟩
  · have ha' : (st.toList == [97, 108, 108, 111, 119]) = false := by simpa using ha
    clear ha
    by_cases hd : (st.toList == [100, 101, 110, 121]) = true
    · obtain ⟨p, hp⟩ : ∃ p : Prop, p = ((st.toList == [97, 108, 108, 111, 119]) = true ∨ (st.toList == [100, 101, 110, 121]) = true) := ⟨_, rfl⟩
      rw [← hp]
      have hp' : p := by rw [hp]; exact .inr hd
      have HP := hide hp'
      clear hp hp'
      go_enter Tryd.func20, Tryd.ntmps20
      go_wp2_with fail
      refine (c1.out _ ((Gr.refl w).alloc _)).mono ?_
      rintro e w1 ⟨⟨b1, rfl⟩, g1⟩
      cases b1
      · go_wp2
        go_ret
        exact ⟨saysB_no _, ((Gr.refl w).alloc _).trans g1⟩
      · go_wp2_with fail
        refine (c2.out _ (((Gr.refl w).alloc _).trans g1)).mono ?_
        rintro e w2 ⟨⟨b2, rfl⟩, g2⟩
        cases b2
        · go_wp2
          go_ret
          exact ⟨saysB_no _, ((Gr.refl w).alloc _).trans (g1.trans g2)⟩
        · obtain ⟨k1, k2⟩ := blkC (g2.blk (g1.blk (new1 w _)))
          go_wp2_with fail
          refine (c3.out _).mono ?_
          rintro e w3 ⟨rfl, g3⟩
          go_wp2
          all_goals
            go_ret
            exact ⟨saysB_any HP.out _, ((Gr.refl w).alloc _).trans (g1.trans (g2.trans g3))⟩
    · have hd' : (st.toList == [100, 101, 110, 121]) = false := by simpa using hd
      clear hd
      obtain ⟨p, hp⟩ : ∃ p : Prop, p = ((st.toList == [97, 108, 108, 111, 119]) = true ∨ (st.toList == [100, 101, 110, 121]) = true) := ⟨_, rfl⟩
      rw [← hp]
      clear hp
      go_enter Tryd.func20, Tryd.ntmps20
      go_wp2
      go_ret
      exact ⟨saysB_no _, (Gr.refl w).alloc _⟩
end Go.Proofs.Qxb6609544aDoor
