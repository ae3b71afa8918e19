import Derived.Test.Qxb6609544aDoorTree
namespace Go.Proofs.Qxb6609544aDoor
open Go.RowKit Go.Sort Go.Deep

theorem EntAt.gr {pz : Addr} {w w' : World} {g o : Nat} {l : List Rg} (h : EntAt pz w g o l) (G : Gr w w') : EntAt pz w' g o l := by
  intro i hi j hj
  have := h i hi j hj
  rw [ent_get _ _ _ hj] at this ⊢
  exact G.cell this

theorem EntAt.take {pz : Addr} {w : World} {g o : Nat} {l : List Rg} (h : EntAt pz w g o l) (m : Nat) : EntAt pz w g o (l.take m) := by
  intro i hi j hj
  have hi' : i < l.length := by simp at hi; omega
  have := h i hi' j hj
  rw [this]
  simp

theorem EntAt.drop {pz : Addr} {w : World} {g o : Nat} {l : List Rg} (h : EntAt pz w g o l) (m : Nat) : EntAt pz w g (o + m * 6) (l.drop m) := by
  intro i hi j hj
  have hi' : m + i < l.length := by simp at hi; omega
  have := h (m + i) hi' j hj
  rw [show o + m * 6 + i * 6 + j = o + (m + i) * 6 + j by omega, this]
  simp

theorem EntAt.six2 {pz : Addr} {w : World} {g o : Nat} {l : List Rg} (h : EntAt pz w g o l) (i : Nat) (hi : i < l.length) : Six w pz g (o + i * 6) (lo l[i].f) (lo l[i].l) :=
  have h' := h i hi
  ⟨h' 0 (by decide), h' 1 (by decide), h' 2 (by decide), h' 3 (by decide), h' 4 (by decide), h' 5 (by decide)⟩

/-- What build makes of l. -/
def Built (pz : Addr) (w w' : World) (l : List Rg) (e : Ending) : Prop := ∃ t : TT, e = .returned t.ptr ∧ els t = l ∧ Good t ∧ Bal t ∧ InT pz w' t ∧ Gr w w'

/-- build's contract. -/
def BuildC (pz : Addr) (n : Nat) : Prop := ∀ (g o cap : Nat) (l : List Rg), l.length = n → n ≤ 1048576 → n ≤ cap → ∀ w, Zs pz w → EntAt pz w g o l → Calls Tryd.prog 37 #[.slice (some ⟨g, o, none⟩) n cap] w fun e w' => Built pz w w' l e

theorem cnt_le {t : TT} {l : List Rg} (h : els t = l) {n : Nat} (hl : l.length ≤ n) : cnt t ≤ n := by rw [← els_len, h]; exact hl

theorem built_join {pz : Addr} {w w1 w' : World} {l : List Rg} {m : Nat} (hm : m < l.length) (hm1 : m = l.length / 2) {tl tr t : TT} (h1 : els tl = l.take m) (h2 : els tr = l.drop (m + 1)) (b1 : Bal tl) (b2 : Bal tr)
    {x : Rg} (hx : l[m] = x) (ht : ∃ b, t = .node b 0 (x, cnt tl + cnt tr + 1, mxl (mxl x.l tl) tr) tl tr ∧ w1.heap.size ≤ b) (hg : Good t) (hi : InT pz w' t) (G : Gr w w') : Built pz w w' l (.returned t.ptr) := by
  obtain ⟨b, rfl, _⟩ := ht
  refine ⟨_, rfl, ?_, hg, ⟨?_, ?_, b1, b2⟩, hi, G⟩
  · simp only [els, h1, h2]
    rw [← hx, List.getElem_cons_drop, List.take_append_drop]
  · rw [← els_len, ← els_len, h1, h2]; simp; omega
  · rw [← els_len, ← els_len, h1, h2]; simp; omega

theorem w64 (x : Int) (h0 : 0 ≤ x) (h1 : x ≤ 9223372036854775807) : IntKind.i64.wrap x = x := by
  have e1 : IntKind.i64.bits = 64 := rfl
  have e2 : IntKind.i64.signed = true := rfl
  unfold IntKind.wrap
  simp only [e1, e2]
  have e3 : (2 : Int) ^ 64 = 18446744073709551616 := by decide
  have e4 : (2 : Int) ^ (64 - 1) = 9223372036854775808 := by decide
  simp only [e3, e4]
  rw [Int.emod_eq_of_lt h0 (by omega)]
  simp
  omega
theorem cutH (g o n cap m : Nat) (hm : m ≤ cap) (w : World) : (Instr.slice 27 (.slice (some ⟨g, o, none⟩) n cap) none (some (.int .i64 (m : Nat))) none).run Tryd.prog w = .ok (.slice (some ⟨g, o, none⟩) m cap) w := by
  rw [run_slice_h w 27 _ _ _ (by kernel_rfl) .i64 _ (by omega) (by omega)]
  have e : Tryd.prog.elem 27 = 49 := by kernel_rfl
  rw [e, Tryd.sizeOf49]
  simp [sliced, Result.andThen, Addr.add]
theorem cutL (g o n cap m : Nat) (hm : m ≤ n) (hc : n ≤ cap) : ∃ o', (cap - m = 0 ∨ o' = o + m * 6) ∧ ∀ w, (Instr.slice 27 (.slice (some ⟨g, o, none⟩) n cap) (some (.int .i64 (m : Nat))) none none).run Tryd.prog w = .ok (.slice (some ⟨g, o', none⟩) (n - m) (cap - m)) w := by
  have e : Tryd.prog.elem 27 = 49 := by kernel_rfl
  by_cases h : cap = m
  · refine ⟨o, Or.inl (by omega), fun w => ?_⟩
    rw [run_slice_l w 27 _ _ _ (by kernel_rfl) .i64 _ (by omega) (by omega), e, Tryd.sizeOf49]
    simp [sliced, Result.andThen, h]
  · refine ⟨o + m * 6, Or.inr rfl, fun w => ?_⟩
    rw [run_slice_l w 27 _ _ _ (by kernel_rfl) .i64 _ (by omega) (by omega), e, Tryd.sizeOf49]
    simp [sliced, Result.andThen, h, Addr.add]

set_option maxHeartbeats 4000000 in
theorem buildE (pz : Addr) : ∀ n, BuildC pz n := by
  intro n
  induction n using Nat.strongRecOn with
  | ind n ih =>
  intro g o cap l hn hn2 hcap w hz h
  by_cases h0 : n = 0
  · subst h0
    go_enter Tryd.func37, Tryd.ntmps37
    go_wp2
    go_ret
    have : l = [] := List.length_eq_zero_iff.1 hn
    subst this
    exact ⟨.nil, rfl, rfl, trivial, trivial, trivial, Gr.refl w⟩
  · obtain ⟨m, hm⟩ : ∃ m, m = n / 2 := ⟨_, rfl⟩
    have hml : m < n := by omega
    have hml' : m < l.length := by omega
    have C1 := hide (fun W cap' (hc : m ≤ cap') (G : Gr w W) => ih m hml g o cap' (l.take m) (by simp; omega) (by omega) hc W (hz.gr G) ((h.gr G).take m))
    have C2 := hide (fun W g' o' cap' (hc : n - (m + 1) ≤ cap') (G : Gr w W) (he : n - (m + 1) = 0 ∨ (g' = g ∧ o' = o + (m + 1) * 6)) => ih (n - (m + 1)) (by omega) g' o' cap' (l.drop (m + 1)) (by simp; omega) (by omega) hc W (hz.gr G) (by
      rcases he with he | ⟨rfl, rfl⟩
      · have : l.drop (m + 1) = [] := by rw [List.drop_eq_nil_iff]; omega
        rw [this]
        intro i hi
        simp at hi
      · exact (h.gr G).drop (m + 1)))
    obtain ⟨x, hx⟩ : ∃ x, l[m] = x := ⟨_, rfl⟩
    have C3 := hide (fun W tl tr (G : Gr w W) hl hr gl gr hcl hcr => joinT pz x tl tr W (hz.gr G) hl hr gl gr hcl hcr)
    have hquo : (Int.tdiv (n : Int) 2) = (m : Nat) := by rw [Int.tdiv_eq_ediv_of_nonneg (by omega)]; omega
    have hlen1 : (l.take m).length ≤ 1048576 := by simp; omega
    have hlen2 : (l.drop (m + 1)).length ≤ 1048576 := by simp; omega
    have L1 := hide hlen1
    have L2 := hide hlen2
    obtain ⟨y0, y1, y2, y3, y4, y5⟩ := h.six2 m hml'
    rw [hx] at y1 y4
    simp only [Rg.ent] at C3
    generalize hf : lo x.f = xf at *
    generalize hl : lo x.l = xl at *
    have hm' : m = l.length / 2 := by omega
    have HM : Hid (∃ h : m < l.length, m = l.length / 2 ∧ l[m] = x) := ⟨hml', hm', hx⟩
    have K0 := hide (p := (fun w' => w'.cell? ⟨g, o + m * 6, none⟩ = some (.int .u64 0) ∧ w'.cell? ⟨g, o + m * 6 + 1, none⟩ = some (.int .u64 xf) ∧ w'.cell? ⟨g, o + m * 6 + 2, none⟩ = some (.pointer (some pz)) ∧ w'.cell? ⟨g, o + m * 6 + 3, none⟩ = some (.int .u64 0) ∧ w'.cell? ⟨g, o + m * 6 + 4, none⟩ = some (.int .u64 xl) ∧ w'.cell? ⟨g, o + m * 6 + 5, none⟩ = some (.pointer (some pz))) w) ⟨y0, y1, y2, y3, y4, y5⟩
    have sl1 := cutH g o n cap m (by omega)
    obtain ⟨o2, ho2, sl2⟩ := cutL g o n cap (m + 1) (by omega) (by omega)
    replace ho2 := hide ho2
    have hw : IntKind.i64.wrap ((m : Int) + 1) = (m : Int) + 1 := w64 _ (by omega) (by omega)
    have hI1 : (m : Int) + 1 ≤ n := by omega
    have hI2 : (0 : Int) ≤ (m : Int) + 1 := by omega
    have sl3 := sl2
    rw [show ((m + 1 : Nat) : Int) = (m : Int) + 1 by omega] at sl3
    clear hlen1 hlen2 ih hz h hf hl hm hn hx hml' hm'
    go_enter Tryd.func37, Tryd.ntmps37
    go_wp2_with fail
    go_region_held3 (fun w' => w'.cell? ⟨g, o + m * 6, none⟩ = some (.int .u64 0) ∧ w'.cell? ⟨g, o + m * 6 + 1, none⟩ = some (.int .u64 xf) ∧ w'.cell? ⟨g, o + m * 6 + 2, none⟩ = some (.pointer (some pz)) ∧ w'.cell? ⟨g, o + m * 6 + 3, none⟩ = some (.int .u64 0) ∧ w'.cell? ⟨g, o + m * 6 + 4, none⟩ = some (.int .u64 xl) ∧ w'.cell? ⟨g, o + m * 6 + 5, none⟩ = some (.pointer (some pz))) (first | exact K0.out | exact Gr.keep6 G1 K0.out | exact Gr.keep6 (G1.trans G2) K0.out | exact Gr.keep6 ((G1.trans G2).trans G3) K0.out)
        (first
        | (go_at_call 53; refine (C3.out _ t1 t2 (((Gr.refl w).drew.trans G1).trans G2) (i1.gr G2) i2 g1 g2 (cnt_le e1 L1.out) (cnt_le e2 L2.out)).mono ?_; rintro e w3 ⟨t, rfl, ht, hi, hg, G3⟩)
        | (go_at_call 37; refine (C2.out _ _ _ _ (by omega) ((Gr.refl w).drew.trans G1) (by rcases ho2.out with h | h; exact Or.inl (by omega); exact Or.inr ⟨rfl, h⟩)).mono ?_; rintro e w2 ⟨t2, rfl, e2, g2, b2, i2, G2⟩)
        | (go_at_call 37; refine (C1.out _ _ (by omega) (Gr.refl w).drew).mono ?_; rintro e w1 ⟨t1, rfl, e1, g1, b1, i1, G1⟩))
    obtain ⟨hm1, hm2, hm3⟩ := HM.out
    go_wp2
    go_ret
    exact built_join hm1 hm2 e1 e2 b1 b2 hm3 ht hg hi ((((Gr.refl w).drew.trans G1).trans G2).trans G3)
end Go.Proofs.Qxb6609544aDoor
