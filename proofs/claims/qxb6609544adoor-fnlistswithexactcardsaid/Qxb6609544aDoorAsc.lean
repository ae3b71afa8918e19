import Derived.Test.Qxb6609544aDoorIn2
import Derived.Test.Qxb6609544aDoorCmp
namespace Go.Proofs.Qxb6609544aDoor
open Go.RowKit Go.Sort

/-- Small numbers are not wrapped. -/
theorem wrapS (x : Int) (h0 : 0 ≤ x) (h1 : x ≤ 9223372036854775807) : IntKind.i64.wrap x = x := by
  have e1 : IntKind.i64.bits = 64 := rfl
  have e2 : IntKind.i64.signed = true := rfl
  unfold IntKind.wrap
  simp only [e1, e2]
  have e3 : (2 : Int) ^ 64 = 18446744073709551616 := by decide
  have e4 : (2 : Int) ^ (64 - 1) = 9223372036854775808 := by decide
  simp only [e3, e4]
  rw [Int.emod_eq_of_lt h0 (by omega)]
  simp
  omega

set_option maxHeartbeats 4000000 in
/-- ascending: true where each goes before the next. -/
theorem asc28 (sv : Value) (l : List Rg) (w : World) (h : IsSl w sv l) (hl : l.length ≤ 1048576) (hlt : ∀ k (h : k + 1 < l.length), cmpR l[k] l[k + 1] < 0) :
    Calls Tryd.prog 28 #[sv] w fun e w' => e = .returned (.bool true) ∧ Gr w w' := by
  obtain ⟨hok, h | ⟨b, o, cap, rfl, hr⟩⟩ := h
  · obtain ⟨rfl, rfl⟩ := h
    clear hlt
    go_enter Tryd.func28, Tryd.ntmps28
    go_wp2
    go_loop [3] (fun vi => vi = .int .i64 1) (fun _ => 0)
    case atStart => rfl
    case round =>
      subst hrel
      go_wp2
      go_ret
      exact ⟨rfl, Gr.refl w⟩
  · obtain ⟨n, hn⟩ : ∃ n, l.length = n := ⟨_, rfl⟩
    have HLT := hide hlt
    rw [hn] at hl ⊢
    have HN := hide hn
    have HO := hide hok
    have HR := hide hr
    have hm := mixed
    have hq := cellQ
    clear hn hok hr hlt
    go_enter Tryd.func28, Tryd.ntmps28
    go_wp2
    go_loopw [3] (fun vi wr => ∃ j : Nat, vi = .int .i64 j ∧ 1 ≤ j ∧ j ≤ n + 1 ∧ Gr w wr) (fun vi _ => n + 2 - (intOf vi).toNat)
    case atStart => exact ⟨1, rfl, by omega, by omega, Gr.refl w⟩
    case round =>
      obtain ⟨j, rfl, hj0, hj, hg⟩ := hrel
      by_cases hlt : j < n
      · obtain ⟨k, hk⟩ : ∃ k, k + 1 = j := ⟨j - 1, by omega⟩
        have hk0 : k < l.length := by have := HN.out; omega
        have hk1 : k + 1 < l.length := by have := HN.out; omega
        have hat := (HR.out.gr hg).at k hk0
        have hat2 := (HR.out.gr hg).at (k + 1) hk1
        have hb := (HR.out.gr hg).lt k hk0
        have hok := HO.out l[k] (List.getElem_mem hk0)
        have hok2 := HO.out l[k + 1] (List.getElem_mem hk1)
        have hc := HLT.out k hk1
        generalize l[k] = r at hat hok hc
        generalize l[k + 1] = s at hat2 hok2 hc
        rw [hk] at hat2
        obtain ⟨a0, a1, a2, a3, a4, a5, a6, a7⟩ := hat
        obtain ⟨d0, d1, d2, d3, d4, d5, d6, d7⟩ := hat2
        have c := hide (fun W => cmpRange r s hok hok2 W)
        simp only [Rg.val, Rg.cells] at c
        generalize cmpR r s = x at c hc
        have hw := wrapS k (by omega) (by omega)
        have hkn : k < n := by omega
        have hjk : (j : Int) - 1 = (k : Int) := by omega
        clear hk0 hk1 hok hok2 hk
        go_wp2
        refine wp_region_quiet_grown hm (by kernel_rfl) ?_
        repeat (quiet_step ((go_at_call 46; exact callsQ (c.out _))))
        refine wpQuiet_nil ?_
        intro w1 hw1
        have g1 := Gr.ofEx hw1
        clear hw1
        go_wp2
        go_roundw
        case rel => exact ⟨j + 1, by go_num, by omega, by omega, hg.trans g1⟩
        case measure => simp [intOf]; omega
      · go_wp2
        go_ret
        exact ⟨rfl, hg⟩
end Go.Proofs.Qxb6609544aDoor
