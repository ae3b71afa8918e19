import Derived.Test.Qxb6609544aDoorIn
namespace Go.Proofs.Qxb6609544aDoor
open Go.RowKit Go.Sort

theorem RowAt.gr {w w' : World} {b o : Nat} {l : List Rg} (hr : RowAt w b o l) (g : Gr w w') : RowAt w' b o l := fun i hi j hj => by
  have h1 := hr i hi j hj
  rw [List.getElem?_eq_getElem (by simpa [Rg.cells] using hj)] at h1 ⊢
  exact g.cell h1

theorem RowAt.lt {w : World} {b o : Nat} {l : List Rg} (hr : RowAt w b o l) (i : Nat) (hi : i < l.length) : b < w.heap.size :=
  World.block_lt_of_cell? _ _ (hr.at i hi).1

set_option maxHeartbeats 4000000 in
theorem rangesOK (sv : Value) (l : List Rg) (w : World) (h : IsSl w sv l) (hl : l.length ≤ maxLen) :
    Calls Tryd.prog 8 #[sv] w fun e w' => AnyB e ∧ Gr w w' := by
  unfold maxLen at hl
  obtain ⟨hok, h | ⟨b, o, cap, rfl, hr⟩⟩ := h
  · obtain ⟨rfl, rfl⟩ := h
    go_enter Tryd.func8, Tryd.ntmps8
    go_wp2
    go_loop [3] (fun vi => vi = .int .i64 0) (fun _ => 0)
    case atStart => rfl
    case round =>
      subst hrel
      go_wp2
      go_ret
      exact ⟨anyB _, Gr.refl w⟩
  · obtain ⟨n, hn⟩ : ∃ n, l.length = n := ⟨_, rfl⟩
    rw [hn] at hl ⊢
    have HN := hide hn
    have HO := hide hok
    have HR := hide hr
    have hm := mixed
    have hq := cellQ
    clear hn hok hr
    go_enter Tryd.func8, Tryd.ntmps8
    go_wp2
    go_loopw [3] (fun vi wr => ∃ k : Nat, k ≤ n ∧ vi = .int .i64 k ∧ Gr w wr) (fun vi _ => n - (intOf vi).toNat)
    case atStart => exact ⟨0, by omega, rfl, Gr.refl w⟩
    case round =>
      obtain ⟨k, hk, rfl, hg⟩ := hrel
      by_cases hlt : k < n
      · have hkl : k < l.length := by have := HN.out; omega
        have hat := (HR.out.gr hg).at k hkl
        have hb := (HR.out.gr hg).lt k hkl
        have hok := HO.out l[k] (List.getElem_mem hkl)
        generalize l[k] = r at hat hok
        obtain ⟨a0, a1, a2, a3, a4, a5, a6, a7⟩ := hat
        have c := hide (fun W => cmp4 r.f r.l hok.1 hok.2 W)
        simp only [Ad.val] at c
        generalize cmpN r.f.num r.l.num = x at c
        clear hkl hok
        by_cases hx : 0 < x
        · go_wp2
          refine wp_region_quiet_grown hm (by kernel_rfl) ?_
          repeat (quiet_step ((go_at_call 25; exact callsQ (c.out _))))
          refine wpQuiet_nil ?_
          intro w1 hw1
          have g1 := Gr.ofEx hw1
          clear hw1
          go_wp2
          go_ret
          exact ⟨anyB _, hg.trans g1⟩
        · go_wp2
          refine wp_region_quiet_grown hm (by kernel_rfl) ?_
          repeat (quiet_step ((go_at_call 25; exact callsQ (c.out _))))
          refine wpQuiet_nil ?_
          intro w1 hw1
          have g1 := Gr.ofEx hw1
          clear hw1
          go_wp2
          go_roundw
          case rel => exact ⟨k + 1, by omega, by go_num, hg.trans g1⟩
          case measure => simp [intOf]; omega
      · go_wp2
        go_ret
        exact ⟨anyB _, hg⟩
end Go.Proofs.Qxb6609544aDoor
