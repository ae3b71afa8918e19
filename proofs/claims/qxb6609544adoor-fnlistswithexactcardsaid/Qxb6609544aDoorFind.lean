import Derived.Test.Qxb6609544aDoorAsc
namespace Go.Proofs.Qxb6609544aDoor
open Go.RowKit Go.Sort

set_option maxHeartbeats 4000000 in
/-- find: where x stands. -/
theorem find29 (sv : Value) (l : List Rg) (x : Rg) (hx : x.ok) (p : Nat) (hp : p < l.length) (w : World) (h : IsSl w sv l) (hl : l.length ≤ 1048576)
    (hc : ∀ k (h : k < l.length), (cmpR l[k] x = 0 → k = p) ∧ (cmpR l[k] x < 0 → k < p) ∧ (0 < cmpR l[k] x → p < k)) :
    Calls Tryd.prog 29 #[sv, x.val] w fun e w' => e = .returned (.int .i64 p) ∧ Gr w w' := by
  obtain ⟨hok, h | ⟨b, o, cap, rfl, hr⟩⟩ := h
  · obtain ⟨rfl, rfl⟩ := h
    simp at hp
  · obtain ⟨n, hn⟩ : ∃ n, l.length = n := ⟨_, rfl⟩
    have HC := hide hc
    rw [hn] at hl hp ⊢
    have HN := hide hn
    have HO := hide hok
    have HR := hide hr
    have hm := mixed
    have hq := cellQ
    have G0 := (Gr.refl w).alloc (.cells #[.int .u8 x.f.a, .int .u8 x.f.b, .int .u8 x.f.c, .int .u8 x.f.d, .int .u8 x.l.a, .int .u8 x.l.b, .int .u8 x.l.c, .int .u8 x.l.d] 37)
    have B0 := hide (new1 w (.cells #[.int .u8 x.f.a, .int .u8 x.f.b, .int .u8 x.f.c, .int .u8 x.f.d, .int .u8 x.l.a, .int .u8 x.l.b, .int .u8 x.l.c, .int .u8 x.l.d] 37))
    clear hn hok hr hc
    simp only [Rg.val, Rg.cells]
    go_enter Tryd.func29, Tryd.ntmps29
    go_wp2
    go_loopw [5, 6] (fun vl vh wr => ∃ a c : Nat, vl = .int .i64 a ∧ vh = .int .i64 c ∧ a ≤ p ∧ p < c ∧ c ≤ n ∧ Gr (w.alloc (.cells #[.int .u8 x.f.a, .int .u8 x.f.b, .int .u8 x.f.c, .int .u8 x.f.d, .int .u8 x.l.a, .int .u8 x.l.b, .int .u8 x.l.c, .int .u8 x.l.d] 37)) wr) (fun vl vh _ => (intOf vh).toNat - (intOf vl).toNat)
    case atStart => exact ⟨0, n, rfl, rfl, by omega, by omega, by omega, Gr.refl _⟩
    case round =>
      obtain ⟨a, c, rfl, rfl, ha, hcc, hcn, hg⟩ := hrel
      obtain ⟨m, hm1⟩ : ∃ m, m = a + (c - a) / 2 := ⟨_, rfl⟩
      have hma : a ≤ m := by omega
      have hmc : m < c := by omega
      have hquo : (Int.tdiv ((c : Int) - a) 2) = (m : Int) - a := by rw [Int.tdiv_eq_ediv_of_nonneg (by omega)]; omega
      have hmn : m < l.length := by have := HN.out; omega
      have hat := (HR.out.gr (G0.trans hg)).at m hmn
      have hb := (HR.out.gr (G0.trans hg)).lt m hmn
      have hok := HO.out l[m] (List.getElem_mem hmn)
      have hcm := HC.out m hmn
      generalize l[m] = r at hat hok hcm
      obtain ⟨a0, a1, a2, a3, a4, a5, a6, a7⟩ := hat
      have hbk := hg.blk B0.out
      obtain ⟨k1, k2⟩ := blkC hbk
      have hbl : w.heap.size < wr.heap.size := (Array.getElem?_eq_some_iff.1 hbk).1
      have d0 := k1 0
      have d1 := k1 1
      have d2 := k1 2
      have d3 := k1 3
      have d4 := k1 4
      have d5 := k1 5
      have d6 := k1 6
      have d7 := k1 7
      simp at d0 d1 d2 d3 d4 d5 d6 d7
      have C := hide (fun W => cmpRange r x hok hx W)
      simp only [Rg.val, Rg.cells] at C
      generalize cmpR r x = y at C hcm
      obtain ⟨hy0, hy1, hy2⟩ := hcm
      have HM := hide hm1
      clear hmn hok k1 k2 hbk hm1
      have hw := wrapS m (by omega) (by omega)
      have hmn : m < n := by omega
      have e : (a : Int) + ((m : Int) - a) = m := by omega
      go_wp2
      refine wp_region_quiet_grown hm (by kernel_rfl) ?_
      repeat (quiet_step ((go_at_call 46; exact callsQ (C.out _))))
      refine wpQuiet_nil ?_
      intro w1 hw1
      have g1 := Gr.ofEx hw1
      clear hw1 e hquo
      have Y := hide (And.intro hy0 (And.intro hy1 hy2))
      have hpm : y = 0 ∨ y < 0 ∨ 0 < y := by omega
      clear hy0 hy1 hy2
      rcases hpm with h | h | h
      · have hmp : m = p := Y.out.1 h
        have hd : (y == 0) = true := by simpa using h
        have HP := hide hmp
        clear hmp h
        go_wp2
        go_ret
        exact ⟨ret_int (by rw [HP.out]), G0.trans (hg.trans g1)⟩
      · have hmp := Y.out.2.1 h
        have hd : (y == 0) = false := by simp; omega
        go_wp2
        go_roundw
        case rel => exact ⟨m + 1, c, by go_num, rfl, by omega, by omega, by omega, hg.trans g1⟩
        case measure => simp [intOf]; omega
      · have hmp := Y.out.2.2 h
        have hd : (y == 0) = false := by simp; omega
        have hd2 : decide (y < 0) = false := by simp; omega
        go_wp2
        go_roundw
        case rel => exact ⟨a, m, rfl, rfl, by omega, by omega, by omega, hg.trans g1⟩
        case measure => simp [intOf]; omega
end Go.Proofs.Qxb6609544aDoor
