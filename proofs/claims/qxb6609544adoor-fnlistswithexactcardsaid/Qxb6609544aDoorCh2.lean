import Derived.Test.Qxb6609544aDoorCh1
namespace Go.Proofs.Qxb6609544aDoor
open Go.RowKit Go.Sort Go.Deep

/-- change, with with's closure, over a sound tree. -/
theorem change55 (pz : Addr) (x : Rg) (hx : x.ok) : ∀ t : TT, Good t → Bal t → (els t).Pairwise (fun x y => x.key < y.key) → (∀ r ∈ els t, r.ok) → cnt t ≤ 400000 → ChangeC pz x t
  | .nil, _, _, _, _, _ => change_nil pz x
  | .node b o (y, s, a) l r, hg, hb, hs, hok, hc => by
    intro w hz hi
    obtain rfl : o = 0 := hi.1
    have hs' := List.pairwise_append.1 (show (els l ++ y :: els r).Pairwise (fun x y => x.key < y.key) from hs)
    have hcl : cnt l ≤ 400000 := by simp only [cnt] at hc; omega
    have hcr : cnt r ≤ 400000 := by simp only [cnt] at hc; omega
    exact change_node pz x y b s a l r hx (hok y (by simp [els])) hg hb hs hc
      (change55 pz x hx l hg.2.2.1 hb.2.2.1 hs'.1 (fun r hr => hok r (by simp [els, hr])) hcl)
      (change55 pz x hx r hg.2.2.2 hb.2.2.2 (List.pairwise_cons.1 hs'.2.1).2 (fun r hr => hok r (by simp [els, hr])) hcr) w hz hi

/-- The tree with x. -/
def Wth (x : Rg) (t t' : TT) : Prop := (∀ r, r ∈ els t' ↔ r ∈ els t ∨ r = x) ∧ (els t').Pairwise (fun x y => x.key < y.key) ∧ Good t' ∧ Bal t' ∧ cnt t' ≤ cnt t + 1

theorem wth_of {pz : Addr} {x : Rg} {t : TT} {w w' : World} {e : Ending} (h : Chd pz x t w e w') (hs : (els t).Pairwise (fun x y => x.key < y.key)) : ∃ t' : TT, e = .returned t'.ptr ∧ Wth x t t' ∧ InT pz w' t' ∧ Gr w w' := by
  obtain ⟨t', rfl, i1, g1, b1, G, ⟨rfl, hm⟩ | ⟨_, hp⟩⟩ := h
  · refine ⟨t', rfl, ⟨fun r => ⟨Or.inl, ?_⟩, hs, g1, b1, by omega⟩, i1, G⟩
    rintro (h | rfl)
    · exact h
    · exact hm
  · have hl := hp.len
    rw [els_len, els_len] at hl
    exact ⟨t', rfl, ⟨hp.mem, hp.sorted hs, g1, b1, by omega⟩, i1, G⟩

set_option maxHeartbeats 1000000 in
theorem with48 (pz : Addr) (x : Rg) (hx : x.ok) (t : TT) (hg : Good t) (hb : Bal t) (hs : (els t).Pairwise (fun x y => x.key < y.key)) (hok : ∀ r ∈ els t, r.ok) (hc : cnt t ≤ 400000) (w : World) (hz : Zs pz w) (hi : InT pz w t) :
    Calls Tryd.prog 48 #[t.ptr, .agg (x.ent pz).toArray] w fun e w' => ∃ t' : TT, e = .returned t'.ptr ∧ Wth x t t' ∧ InT pz w' t' ∧ Gr w w' := by
  have C := hide (fun W (G : Gr w W) => (change55 pz x hx t hg hb hs hok hc W (hz.gr G) (hi.gr G)).mono (fun e w' h => wth_of h hs))
  obtain ⟨p, hp⟩ := ptrE t
  rw [hp]
  simp only [hp, Rg.ent] at C ⊢
  generalize lo x.f = xf at *
  generalize lo x.l = xl at *
  clear hg hb hs hok hc hz hi hp hx
  have G0 : Gr w (w.alloc (.cells #[.int .u64 0, .int .u64 xf, .pointer (some pz), .int .u64 0, .int .u64 xl, .pointer (some pz)] 49)) := (Gr.refl w).alloc _
  go_enter Tryd.func48, Tryd.ntmps48
  go_wp2_with fail
  refine (C.out _ G0).mono ?_
  rintro e w1 ⟨t', rfl, hw, hi, G1⟩
  have F := hide (show ∃ t2 : TT, Ending.returned t'.ptr = .returned t2.ptr ∧ Wth x t t2 ∧ InT pz w1 t2 ∧ Gr w w1 from ⟨t', rfl, hw, hi, G0.trans G1⟩)
  obtain ⟨pt, hpt⟩ := ptrE t'
  rw [hpt] at F ⊢
  clear hpt hw hi C G0 G1
  go_wp2_with fail
  go_ret
  exact F.out

set_option maxHeartbeats 1000000 in
theorem setWith31 (pz : Addr) (x : Rg) (hx : x.ok) (t : TT) (hg : Good t) (hb : Bal t) (hs : (els t).Pairwise (fun x y => x.key < y.key)) (hok : ∀ r ∈ els t, r.ok) (hc : cnt t ≤ 400000) (w : World) (hz : Zs pz w) (hi : InT pz w t) :
    Calls Tryd.prog 31 #[.agg #[t.ptr], .agg (x.ent pz).toArray] w fun e w' => ∃ t' : TT, e = .returned (.agg #[t'.ptr]) ∧ Wth x t t' ∧ InT pz w' t' ∧ Gr w w' := by
  have C := hide (fun W (G : Gr w W) => with48 pz x hx t hg hb hs hok hc W (hz.gr G) (hi.gr G))
  obtain ⟨p, hp⟩ := ptrE t
  rw [hp]
  simp only [hp, Rg.ent] at C ⊢
  generalize lo x.f = xf at *
  generalize lo x.l = xl at *
  clear hg hb hs hok hc hz hi hp hx
  have G0 : Gr w (((w.alloc (.cells #[.pointer p] 33)).alloc (.cells #[.int .u64 0, .int .u64 xf, .pointer (some pz), .int .u64 0, .int .u64 xl, .pointer (some pz)] 49)).alloc (.cells #[.pointer none] 33)) := (((Gr.refl w).alloc _).alloc _).alloc _
  have b0 := new3 w (.cells #[.pointer p] 33) (.cells #[.int .u64 0, .int .u64 xf, .pointer (some pz), .int .u64 0, .int .u64 xl, .pointer (some pz)] 49) (.cells #[.pointer none] 33)
  go_enter Tryd.func31, Tryd.ntmps31
  go_wp2_with fail
  refine (C.out _ G0).mono ?_
  rintro e w1 ⟨t', rfl, hw, hi, G1⟩
  have b1 := G1.blk b0
  obtain ⟨k1, k2⟩ := blkC b1
  have c0 : w1.cell? ⟨w.heap.size + 2, 0, none⟩ = some (.pointer none) := k1 0
  have f0 := k2 0
  have HW := hide hw
  have HI := hide (fun v => hi.off (by decide) b1 0 v)
  have HG := hide (fun v => (G0.trans G1).setCell (p := ⟨w.heap.size + 2, 0, none⟩) (by simp) v)
  obtain ⟨pt, hpt⟩ := ptrE t'
  have HPT := hide hpt
  rw [hpt]
  have hcc := World.cell?_setCell_same _ _ (.pointer pt) c0
  clear hpt hw hi C G0 G1 k1 k2 b0 b1
  go_wp2_with fail
  exact bodyPost_ret (v := .agg #[.pointer pt]) (by simp [results, Tryd.results31, go_sem, hcc]) rfl ⟨t', by rw [HPT.out], HW.out, HI.out _, HG.out _⟩

set_option maxHeartbeats 2000000 in
/-- changed, over whatever change. -/
theorem changed31 (R : TT → Prop) (pz : Addr) (b : Nat) (p q : Option Addr) (a : Bool) (x : Rg) (w : World) (h : LsAt w b (.pointer p) (.pointer q))
    (C : ∀ W, Gr w W → Calls Tryd.prog 31 #[.agg #[.pointer (if a then p else q)], .agg (x.ent pz).toArray] W fun e w' => ∃ t : TT, e = .returned (.agg #[t.ptr]) ∧ R t ∧ InT pz w' t ∧ Gr W w') :
    Calls Tryd.prog 30 #[.pointer (some ⟨b, 0, none⟩), .string (listS a), .agg (x.ent pz).toArray, .func (.func 31) #[] #[]] w fun e w' => Chged R pz p q a w e w' := by
  simp only [Rg.ent] at *
  generalize lo x.f = xf at *
  generalize lo x.l = xl at *
  have CC := hide C
  have S := hide (fun W b => set47 b a W)
  have hb := ndL h
  obtain ⟨k1, k2⟩ := blkC h
  have c0 : w.cell? ⟨b, 0, none⟩ = some (.pointer p) := k1 0
  have c1 : w.cell? ⟨b, 1, none⟩ = some (.pointer q) := k1 1
  clear k1 k2 C h
  cases a with
  | true =>
    simp only [if_true] at CC S
    go_enter Tryd.func30, Tryd.ntmps30
    go_wp2_with fail
    refine (S.out _ _).mono ?_
    rintro e w1 ⟨rfl, rfl⟩
    go_wp2_with fail
    go_region_with (go_at_call 31; refine (CC.out _ (((Gr.refl w).alloc _).alloc _).drew).mono ?_; rintro e w1 ⟨t, rfl, hR, hI, G1⟩; have hbk := G1.blk (show (((w.alloc _).alloc _).drew).heap[w.heap.size + 1]? = _ from new2 w _ _); obtain ⟨k1, k2⟩ := blkC hbk; have d0 := k1 0; have f0 := k2 0; obtain ⟨r, hr⟩ := ptrE t; have HR := hide hr; rw [hr])
    all_goals
      go_wp2
      go_ret
      refine ⟨w.heap.size + 1, t, rfl, by omega, hR, hI.off (by decide) hbk _ _, ?_, ((((Gr.refl w).alloc _).alloc _).drew.trans G1).setCell (by simp) _⟩
      rw [HR.out]
      exact two59 hbk true _
  | false =>
    simp only [Bool.false_eq_true, if_false] at CC S
    go_enter Tryd.func30, Tryd.ntmps30
    go_wp2_with fail
    refine (S.out _ _).mono ?_
    rintro e w1 ⟨rfl, rfl⟩
    go_wp2_with fail
    go_region_with (go_at_call 31; refine (CC.out _ (((Gr.refl w).alloc _).alloc _).drew).mono ?_; rintro e w1 ⟨t, rfl, hR, hI, G1⟩; have hbk := G1.blk (show (((w.alloc _).alloc _).drew).heap[w.heap.size + 1]? = _ from new2 w _ _); obtain ⟨k1, k2⟩ := blkC hbk; have d0 := k1 1; have f0 := k2 1; obtain ⟨r, hr⟩ := ptrE t; have HR := hide hr; rw [hr])
    all_goals
      go_wp2
      go_ret
      refine ⟨w.heap.size + 1, t, rfl, by omega, hR, hI.off (by decide) hbk _ _, ?_, ((((Gr.refl w).alloc _).alloc _).drew.trans G1).setCell (by simp) _⟩
      rw [HR.out]
      exact two59 hbk false _

set_option maxHeartbeats 1000000 in
/-- With. -/
theorem with16 (pz : Addr) (b : Nat) (p q : Option Addr) (a : Bool) (x : Rg) (hx : x.ok) (t : TT) (hp : t.ptr = .pointer (if a then p else q)) (hg : Good t) (hb : Bal t) (hs : (els t).Pairwise (fun x y => x.key < y.key)) (hok : ∀ r ∈ els t, r.ok) (hc : cnt t ≤ 400000) (w : World) (hz : Zs pz w) (hi : InT pz w t) (h : LsAt w b (.pointer p) (.pointer q)) :
    Calls Tryd.prog 16 #[.pointer (some ⟨b, 0, none⟩), .string (listS a), .agg (x.ent pz).toArray] w fun e w' => Chged (Wth x t) pz p q a w e w' := by
  have C := hide (fun W (G : Gr w W) => changed31 (Wth x t) pz b p q a x W (h.gr G) (fun W2 G2 => by
    have := setWith31 pz x hx t hg hb hs hok hc W2 (hz.gr (G.trans G2)) (hi.gr (G.trans G2))
    rw [hp] at this
    exact this))
  clear h hg hb hs hok hc hz hi hp hx
  simp only [Rg.ent] at *
  generalize lo x.f = xf at *
  generalize lo x.l = xl at *
  go_enter Tryd.func16, Tryd.ntmps16
  go_wp2_with fail
  refine (C.out _ ((Gr.refl w).alloc _)).mono ?_
  rintro e w' ⟨c, t', rfl, h1, h2, h3, h4, G1⟩
  go_wp2
  go_ret
  exact ⟨c, t', rfl, Nat.le_trans ((Gr.refl w).alloc _).size h1, h2, h3, h4, ((Gr.refl w).alloc _).trans G1⟩
end Go.Proofs.Qxb6609544aDoor
