import Derived.Test.Qxb6609544aDoorWb
import Derived.Test.Qxb6609544aDoorAsc
namespace Go.Proofs.Qxb6609544aDoor
open Go.RowKit Go.Sort Go.Deep

theorem weight79 (pz : Addr) (t : TT) (w : World) (hi : InT pz w t) (hg : Good t) (hc : cnt t ≤ 1048576) : Calls Tryd.prog 79 #[t.ptr] w fun e w' => e = .returned (.int .i64 ((cnt t : Int) + 1)) ∧ w' = w := by
  cases t with
  | nil =>
    simp only [BT.ptr, cnt]
    clear hi hg hc
    go_enter Tryd.func79, Tryd.ntmps79
    go_wp2
    go_ret
    exact ⟨rfl, rfl⟩
  | node b o n l r =>
    obtain ⟨rfl, hb, _, _⟩ := hi
    have hs := hg.1
    obtain ⟨⟨c8, _⟩, _⟩ := ndK hb
    rw [hs] at c8
    obtain ⟨k, hk⟩ : ∃ k, cnt l + cnt r + 1 = k := ⟨_, rfl⟩
    simp only [cnt] at hc ⊢
    rw [hk] at c8 hc ⊢
    have hkI : (k : Int) ≤ 1048576 := by omega
    simp only [BT.ptr]
    clear hs hk hg hb
    go_enter Tryd.func79, Tryd.ntmps79
    go_wp2
    go_ret
    exact ⟨rfl, rfl⟩
theorem weight79g (pz : Addr) (t : TT) (w : World) (hi : InT pz w t) (hg : Good t) (hc : cnt t ≤ 1048576) : Calls Tryd.prog 79 #[t.ptr] w fun e w' => e = .returned (.int .i64 ((cnt t : Int) + 1)) ∧ Gr w w' :=
  (weight79 pz t w hi hg hc).mono (by rintro e w' ⟨h, rfl⟩; exact ⟨h, Gr.refl _⟩)

theorem Gr.keep14 {W w1 : World} {p0 p1 p2 p3 p4 p5 p6 p7 p8 p9 p10 p11 p12 p13 : Addr} {v0 v1 v2 v3 v4 v5 v6 v7 v8 v9 v10 v11 v12 v13 : Value} (g : Gr W w1) (h : W.cell? p0 = some v0 ∧ W.cell? p1 = some v1 ∧ W.cell? p2 = some v2 ∧ W.cell? p3 = some v3 ∧ W.cell? p4 = some v4 ∧ W.cell? p5 = some v5 ∧ W.cell? p6 = some v6 ∧ W.cell? p7 = some v7 ∧ W.cell? p8 = some v8 ∧ W.cell? p9 = some v9 ∧ W.cell? p10 = some v10 ∧ W.cell? p11 = some v11 ∧ W.cell? p12 = some v12 ∧ W.cell? p13 = some v13) : w1.cell? p0 = some v0 ∧ w1.cell? p1 = some v1 ∧ w1.cell? p2 = some v2 ∧ w1.cell? p3 = some v3 ∧ w1.cell? p4 = some v4 ∧ w1.cell? p5 = some v5 ∧ w1.cell? p6 = some v6 ∧ w1.cell? p7 = some v7 ∧ w1.cell? p8 = some v8 ∧ w1.cell? p9 = some v9 ∧ w1.cell? p10 = some v10 ∧ w1.cell? p11 = some v11 ∧ w1.cell? p12 = some v12 ∧ w1.cell? p13 = some v13 := by
  obtain ⟨h0, h1, h2, h3, h4, h5, h6, h7, h8, h9, h10, h11, h12, h13⟩ := h
  exact ⟨g.cell h0, g.cell h1, g.cell h2, g.cell h3, g.cell h4, g.cell h5, g.cell h6, g.cell h7, g.cell h8, g.cell h9, g.cell h10, g.cell h11, g.cell h12, g.cell h13⟩
theorem Gr.keep20 {W w1 : World} {p0 p1 p2 p3 p4 p5 p6 p7 p8 p9 p10 p11 p12 p13 p14 p15 p16 p17 p18 p19 : Addr} {v0 v1 v2 v3 v4 v5 v6 v7 v8 v9 v10 v11 v12 v13 v14 v15 v16 v17 v18 v19 : Value} (g : Gr W w1) (h : W.cell? p0 = some v0 ∧ W.cell? p1 = some v1 ∧ W.cell? p2 = some v2 ∧ W.cell? p3 = some v3 ∧ W.cell? p4 = some v4 ∧ W.cell? p5 = some v5 ∧ W.cell? p6 = some v6 ∧ W.cell? p7 = some v7 ∧ W.cell? p8 = some v8 ∧ W.cell? p9 = some v9 ∧ W.cell? p10 = some v10 ∧ W.cell? p11 = some v11 ∧ W.cell? p12 = some v12 ∧ W.cell? p13 = some v13 ∧ W.cell? p14 = some v14 ∧ W.cell? p15 = some v15 ∧ W.cell? p16 = some v16 ∧ W.cell? p17 = some v17 ∧ W.cell? p18 = some v18 ∧ W.cell? p19 = some v19) : w1.cell? p0 = some v0 ∧ w1.cell? p1 = some v1 ∧ w1.cell? p2 = some v2 ∧ w1.cell? p3 = some v3 ∧ w1.cell? p4 = some v4 ∧ w1.cell? p5 = some v5 ∧ w1.cell? p6 = some v6 ∧ w1.cell? p7 = some v7 ∧ w1.cell? p8 = some v8 ∧ w1.cell? p9 = some v9 ∧ w1.cell? p10 = some v10 ∧ w1.cell? p11 = some v11 ∧ w1.cell? p12 = some v12 ∧ w1.cell? p13 = some v13 ∧ w1.cell? p14 = some v14 ∧ w1.cell? p15 = some v15 ∧ w1.cell? p16 = some v16 ∧ w1.cell? p17 = some v17 ∧ w1.cell? p18 = some v18 ∧ w1.cell? p19 = some v19 := by
  obtain ⟨h0, h1, h2, h3, h4, h5, h6, h7, h8, h9, h10, h11, h12, h13, h14, h15, h16, h17, h18, h19⟩ := h
  exact ⟨g.cell h0, g.cell h1, g.cell h2, g.cell h3, g.cell h4, g.cell h5, g.cell h6, g.cell h7, g.cell h8, g.cell h9, g.cell h10, g.cell h11, g.cell h12, g.cell h13, g.cell h14, g.cell h15, g.cell h16, g.cell h17, g.cell h18, g.cell h19⟩
theorem Gr.keep22 {W w1 : World} {p0 p1 p2 p3 p4 p5 p6 p7 p8 p9 p10 p11 p12 p13 p14 p15 p16 p17 p18 p19 p20 p21 : Addr} {v0 v1 v2 v3 v4 v5 v6 v7 v8 v9 v10 v11 v12 v13 v14 v15 v16 v17 v18 v19 v20 v21 : Value} (g : Gr W w1) (h : W.cell? p0 = some v0 ∧ W.cell? p1 = some v1 ∧ W.cell? p2 = some v2 ∧ W.cell? p3 = some v3 ∧ W.cell? p4 = some v4 ∧ W.cell? p5 = some v5 ∧ W.cell? p6 = some v6 ∧ W.cell? p7 = some v7 ∧ W.cell? p8 = some v8 ∧ W.cell? p9 = some v9 ∧ W.cell? p10 = some v10 ∧ W.cell? p11 = some v11 ∧ W.cell? p12 = some v12 ∧ W.cell? p13 = some v13 ∧ W.cell? p14 = some v14 ∧ W.cell? p15 = some v15 ∧ W.cell? p16 = some v16 ∧ W.cell? p17 = some v17 ∧ W.cell? p18 = some v18 ∧ W.cell? p19 = some v19 ∧ W.cell? p20 = some v20 ∧ W.cell? p21 = some v21) : w1.cell? p0 = some v0 ∧ w1.cell? p1 = some v1 ∧ w1.cell? p2 = some v2 ∧ w1.cell? p3 = some v3 ∧ w1.cell? p4 = some v4 ∧ w1.cell? p5 = some v5 ∧ w1.cell? p6 = some v6 ∧ w1.cell? p7 = some v7 ∧ w1.cell? p8 = some v8 ∧ w1.cell? p9 = some v9 ∧ w1.cell? p10 = some v10 ∧ w1.cell? p11 = some v11 ∧ w1.cell? p12 = some v12 ∧ w1.cell? p13 = some v13 ∧ w1.cell? p14 = some v14 ∧ w1.cell? p15 = some v15 ∧ w1.cell? p16 = some v16 ∧ w1.cell? p17 = some v17 ∧ w1.cell? p18 = some v18 ∧ w1.cell? p19 = some v19 ∧ w1.cell? p20 = some v20 ∧ w1.cell? p21 = some v21 := by
  obtain ⟨h0, h1, h2, h3, h4, h5, h6, h7, h8, h9, h10, h11, h12, h13, h14, h15, h16, h17, h18, h19, h20, h21⟩ := h
  exact ⟨g.cell h0, g.cell h1, g.cell h2, g.cell h3, g.cell h4, g.cell h5, g.cell h6, g.cell h7, g.cell h8, g.cell h9, g.cell h10, g.cell h11, g.cell h12, g.cell h13, g.cell h14, g.cell h15, g.cell h16, g.cell h17, g.cell h18, g.cell h19, g.cell h20, g.cell h21⟩
theorem six49 {w : World} {b : Nat} {pz : Addr} {xf xl : Nat} (h : w.heap[b]? = some (.cells #[.int .u64 0, .int .u64 xf, .pointer (some pz), .int .u64 0, .int .u64 xl, .pointer (some pz)] 49 (0, 0))) : w.cell? ⟨b, 0, none⟩ = some (.int .u64 0) ∧ w.cell? ⟨b, 1, none⟩ = some (.int .u64 xf) ∧ w.cell? ⟨b, 2, none⟩ = some (.pointer (some pz)) ∧ w.cell? ⟨b, 3, none⟩ = some (.int .u64 0) ∧ w.cell? ⟨b, 4, none⟩ = some (.int .u64 xl) ∧ w.cell? ⟨b, 5, none⟩ = some (.pointer (some pz)) := by
  have k1 := (blkC h).1
  exact ⟨k1 0, k1 1, k1 2, k1 3, k1 4, k1 5⟩
/-- A node's first eight cells. -/
theorem nd8 {w : World} {b : Nat} {pz : Addr} {xf xl s r : Nat} {p q : Value} (h : w.heap[b]? = some (.cells (ndC pz xf xl p q s r) 70 (0, 0))) :
    w.cell? ⟨b, 0, none⟩ = some (.int .u64 0) ∧ w.cell? ⟨b, 1, none⟩ = some (.int .u64 xf) ∧ w.cell? ⟨b, 2, none⟩ = some (.pointer (some pz)) ∧ w.cell? ⟨b, 3, none⟩ = some (.int .u64 0) ∧ w.cell? ⟨b, 4, none⟩ = some (.int .u64 xl) ∧ w.cell? ⟨b, 5, none⟩ = some (.pointer (some pz)) ∧ w.cell? ⟨b, 6, none⟩ = some p ∧ w.cell? ⟨b, 7, none⟩ = some q := by
  have k1 := (blkC h).1
  exact ⟨k1 0, k1 1, k1 2, k1 3, k1 4, k1 5, k1 6, k1 7⟩

set_option maxHeartbeats 2000000 in
set_option maxRecDepth 20000 in
/-- No rotation. -/
theorem balC (pz : Addr) (x : Rg) (l r : TT) (w : World) (hz : Zs pz w) (hl : InT pz w l) (hr : InT pz w r) (gl : Good l) (gr : Good r) (bl : Bal l) (br : Bal r) (hcl : cnt l ≤ 1048576) (hcr : cnt r ≤ 1048576) (h1 : ¬ 3 * (cnt l + 1) < cnt r + 1) (h2 : ¬ 3 * (cnt r + 1) < cnt l + 1) :
    Calls Tryd.prog 72 #[l.ptr, .agg (x.ent pz).toArray, r.ptr] w fun e w' => Bald pz w w' x l r e := by
  have CW1 := hide (fun W (G : Gr w W) => weight79 pz l W (hl.gr G) gl hcl)
  have CW2 := hide (fun W (G : Gr w W) => weight79 pz r W (hr.gr G) gr hcr)
  have CJ := hide (fun W (G : Gr w W) => joinT pz x l r W (hz.gr G) (hl.gr G) (hr.gr G) gl gr hcl hcr)
  have FIN := hide (fun (t : TT) (w0 w' : World) (hw : w.heap.size ≤ w0.heap.size) ht hi hg (G : Gr w w') => bald_C (pz := pz) (w := w) (w0 := w0) (w' := w') (x := x) (l := l) (r := r) (t := t) ht hw bl br h1 h2 hi hg G)
  obtain ⟨p1, hp1⟩ := ptrE l
  obtain ⟨p2, hp2⟩ := ptrE r
  have d1 : decide (3 * ((cnt l : Int) + 1) < (cnt r : Int) + 1) = false := by simp; omega
  have d2 : decide (3 * ((cnt r : Int) + 1) < (cnt l : Int) + 1) = false := by simp; omega
  have lI : (cnt l : Int) ≤ 1048576 := by omega
  have rI : (cnt r : Int) ≤ 1048576 := by omega
  simp only [hp1, hp2, Rg.ent] at *
  generalize cnt l = cl at *
  generalize cnt r = cr at *
  generalize lo x.f = xf at *
  generalize lo x.l = xl at *
  have B0 := new1 w (.cells #[.int .u64 0, .int .u64 xf, .pointer (some pz), .int .u64 0, .int .u64 xl, .pointer (some pz)] 49)
  clear hz hl hr gl gr bl br h1 h2 hp1 hp2 hcl hcr
  go_enter Tryd.func72, Tryd.ntmps72
  have G0 : Gr w (w.alloc (.cells #[.int .u64 0, .int .u64 xf, .pointer (some pz), .int .u64 0, .int .u64 xl, .pointer (some pz)] 49)) := (Gr.refl w).alloc _
  go_wp2_with fail
  refine (CW1.out _ G0).mono ?_
  rintro e w1 ⟨rfl, rfl⟩
  go_wp2_with fail
  refine (CW2.out _ G0).mono ?_
  rintro e w1 ⟨rfl, rfl⟩
  go_wp2_with fail
  refine (CW2.out _ G0).mono ?_
  rintro e w1 ⟨rfl, rfl⟩
  go_wp2_with fail
  refine (CW1.out _ G0).mono ?_
  rintro e w1 ⟨rfl, rfl⟩
  go_wp2_with fail
  refine (CJ.out _ G0).mono ?_
  rintro e w1 ⟨t, rfl, ht, hi, hg, G1⟩
  obtain ⟨pt, hpt⟩ := ptrE t
  have HPT := hide hpt
  rw [hpt]
  clear hpt
  have F := hide (FIN.out t _ w1 G0.size ht hi hg (G0.trans G1))
  rw [HPT.out] at F
  clear ht hi hg CW1 CW2 CJ FIN G1 G0
  go_wp2_with fail
  go_ret
  exact F.out

set_option maxHeartbeats 4000000 in
set_option maxRecDepth 20000 in
/-- The right side is heavy: a single rotation. -/
theorem balA1 (pz : Addr) (x y : Rg) (l rl rr : TT) (b s : Nat) (a : Ad) (w : World) (hz : Zs pz w) (hl : InT pz w l) (hr : InT pz w (.node b 0 (y, s, a) rl rr)) (gl : Good l) (gr : Good (.node b 0 (y, s, a) rl rr)) (bl : Bal l) (br : Bal (.node b 0 (y, s, a) rl rr)) (nb : NB l (.node b 0 (y, s, a) rl rr)) (hcl : cnt l ≤ 500000) (hcr : cnt (.node b 0 (y, s, a) rl rr) ≤ 500000) (h1 : 3 * (cnt l + 1) < cnt (.node b 0 (y, s, a) rl rr) + 1) (h2 : cnt rl + 1 < 2 * (cnt rr + 1)) :
    Calls Tryd.prog 72 #[l.ptr, .agg (x.ent pz).toArray, .pointer (some ⟨b, 0, none⟩)] w fun e w' => Bald pz w w' x l (.node b 0 (y, s, a) rl rr) e := by
  have hcrl : cnt rl ≤ 500000 := by simp only [cnt] at hcr; omega
  have hcrr : cnt rr ≤ 500000 := by simp only [cnt] at hcr; omega
  obtain ⟨-, hb, irl, irr⟩ := id hr
  obtain ⟨-, -, grl, grr⟩ := id gr
  have CW1 := hide (fun W (G : Gr w W) => weight79 pz l W (hl.gr G) gl (by omega))
  have CW2 := hide (fun W (G : Gr w W) => weight79 pz _ W (hr.gr G) gr (by omega))
  have CW3 := hide (fun W (G : Gr w W) => weight79g pz rl W (irl.gr G) grl (by omega))
  have CW4 := hide (fun W (G : Gr w W) => weight79g pz rr W (irr.gr G) grr (by omega))
  have CJ1 := hide (fun W (G : Gr w W) => joinT pz x l rl W (hz.gr G) (hl.gr G) (irl.gr G) gl grl (by omega) (by omega))
  have CJ2 := hide (fun W (t1 : TT) (G : Gr w W) (hi : InT pz W t1) (hg : Good t1) (hc : cnt t1 ≤ 1048576) => joinT pz y t1 rr W (hz.gr G) hi (irr.gr G) hg grr hc (by omega))
  have CT := hide (fun (t1 : TT) (w1 : World) (ht : ∃ b, t1 = .node b 0 (x, cnt l + cnt rl + 1, mxl (mxl x.l l) rl) l rl ∧ w1.heap.size ≤ b) => (show cnt t1 ≤ 1048576 by obtain ⟨b, rfl, _⟩ := ht; simp only [cnt]; omega))
  have FIN := hide (fun (t1 t : TT) (w1 w0 w' : World) (hw : w.heap.size ≤ w0.heap.size) ht1 ht hi hg (G : Gr w w') => bald_A1 (pz := pz) (w := w) (w0 := w0) (w' := w') (w1 := w1) (x := x) (l := l) (t := t) (t1 := t1) ht1 ht hw bl br nb h1 h2 hi hg G)
  obtain ⟨p1, hp1⟩ := ptrE l
  obtain ⟨p3, hp3⟩ := ptrE rl
  obtain ⟨p4, hp4⟩ := ptrE rr
  have d1 : decide (3 * ((cnt l : Int) + 1) < (cnt (.node b 0 (y, s, a) rl rr) : Int) + 1) = true := by simp; omega
  have d2 : decide ((cnt rl : Int) + 1 < 2 * ((cnt rr : Int) + 1)) = true := by simp; omega
  have lI : (cnt l : Int) ≤ 1048576 := by omega
  have rI : (cnt (.node b 0 (y, s, a) rl rr) : Int) ≤ 1048576 := by omega
  have rlI : (cnt rl : Int) ≤ 1048576 := by omega
  have rrI : (cnt rr : Int) ≤ 1048576 := by omega
  have e2 : (BT.node b 0 (y, s, a) rl rr : TT).ptr = .pointer (some ⟨b, 0, none⟩) := rfl
  rw [e2] at CW2
  simp only [hp1, hp3, hp4, Rg.ent] at *
  have HB := hide hb
  have hm := mixed
  have hq := cellQ
  generalize hcd : cnt (.node b 0 (y, s, a) rl rr) = cr at *
  clear hcd
  generalize cnt l = cl at *
  generalize cnt rl = crl at *
  generalize cnt rr = crr at *
  generalize lo x.f = xf at *
  generalize lo x.l = xl at *
  generalize lo y.f = yf at *
  generalize lo y.l = yl at *
  clear hz hl hr gl gr bl br nb h1 h2 hp1 hp3 hp4 hcl hcr hcrl hcrr hb irl irr grl grr e2
  have G0 : Gr w (w.alloc (.cells #[.int .u64 0, .int .u64 xf, .pointer (some pz), .int .u64 0, .int .u64 xl, .pointer (some pz)] 49)) := (Gr.refl w).alloc _
  have HB1 := hide (G0.blk HB.out)
  obtain ⟨r0, r1, r2, r3, r4, r5, r6, r7⟩ := nd8 HB.out
  have hbl := ndL HB.out
  go_enter Tryd.func72, Tryd.ntmps72
  go_wp2_with fail
  refine (CW1.out _ G0).mono ?_
  rintro e w1 ⟨rfl, rfl⟩
  go_wp2_with fail
  refine (CW2.out _ G0).mono ?_
  rintro e w1 ⟨rfl, rfl⟩
  clear CW1 CW2
  have hwr := wrapS (2 * ((crr : Int) + 1)) (by omega) (by omega)
  go_upto_region 2 with fail
  clear r0 r1 r2 r3 r4 r5
  have r6' := G0.cell r6
  have r7' := G0.cell r7
  have hbl' := ndL HB1.out
  refine wp_region_quiet_grown hm (by kernel_rfl) ?_
  repeat (quiet_step (first
    | (go_at_call_of 79 p3; exact callsQ (CW3.out _ (G0.trans (Gr.of _ _ _))))
    | (go_at_call_of 79 p4; exact callsQ (CW4.out _ (G0.trans (Gr.of _ _ _))))))
  refine wpQuiet_nil ?_
  intro w2 hw2
  have G2 := Gr.ofEx hw2
  clear hw2 CW3 CW4 r6' r7'
  have G02 := G0.trans G2
  have BX := G2.blk (new1 w (.cells #[.int .u64 0, .int .u64 xf, .pointer (some pz), .int .u64 0, .int .u64 xl, .pointer (some pz)] 49))
  have HB2 := G2.blk HB1.out
  have hlx := ndL BX
  have hlb := ndL HB2
  obtain ⟨x0, x1, x2, x3, x4, x5⟩ := six49 BX
  obtain ⟨q0, q1, q2, q3, q4, q5, q6, q7⟩ := nd8 HB2
  have K0 := hide (p := (fun w' => w'.cell? ⟨w.heap.size, 0, none⟩ = some (.int .u64 0) ∧ w'.cell? ⟨w.heap.size, 1, none⟩ = some (.int .u64 xf) ∧ w'.cell? ⟨w.heap.size, 2, none⟩ = some (.pointer (some pz)) ∧ w'.cell? ⟨w.heap.size, 3, none⟩ = some (.int .u64 0) ∧ w'.cell? ⟨w.heap.size, 4, none⟩ = some (.int .u64 xl) ∧ w'.cell? ⟨w.heap.size, 5, none⟩ = some (.pointer (some pz)) ∧ w'.cell? ⟨b, 0, none⟩ = some (.int .u64 0) ∧ w'.cell? ⟨b, 1, none⟩ = some (.int .u64 yf) ∧ w'.cell? ⟨b, 2, none⟩ = some (.pointer (some pz)) ∧ w'.cell? ⟨b, 3, none⟩ = some (.int .u64 0) ∧ w'.cell? ⟨b, 4, none⟩ = some (.int .u64 yl) ∧ w'.cell? ⟨b, 5, none⟩ = some (.pointer (some pz)) ∧ w'.cell? ⟨b, 6, none⟩ = some (.pointer p3) ∧ w'.cell? ⟨b, 7, none⟩ = some (.pointer p4)) w2) ⟨x0, x1, x2, x3, x4, x5, q0, q1, q2, q3, q4, q5, q6, q7⟩
  clear r6 r7 hbl hbl' HB HB1 BX HB2 G2 G0 hq hm
  go_upto_region 3 with fail
  go_region_held3 (fun w' => w'.cell? ⟨w.heap.size, 0, none⟩ = some (.int .u64 0) ∧ w'.cell? ⟨w.heap.size, 1, none⟩ = some (.int .u64 xf) ∧ w'.cell? ⟨w.heap.size, 2, none⟩ = some (.pointer (some pz)) ∧ w'.cell? ⟨w.heap.size, 3, none⟩ = some (.int .u64 0) ∧ w'.cell? ⟨w.heap.size, 4, none⟩ = some (.int .u64 xl) ∧ w'.cell? ⟨w.heap.size, 5, none⟩ = some (.pointer (some pz)) ∧ w'.cell? ⟨b, 0, none⟩ = some (.int .u64 0) ∧ w'.cell? ⟨b, 1, none⟩ = some (.int .u64 yf) ∧ w'.cell? ⟨b, 2, none⟩ = some (.pointer (some pz)) ∧ w'.cell? ⟨b, 3, none⟩ = some (.int .u64 0) ∧ w'.cell? ⟨b, 4, none⟩ = some (.int .u64 yl) ∧ w'.cell? ⟨b, 5, none⟩ = some (.pointer (some pz)) ∧ w'.cell? ⟨b, 6, none⟩ = some (.pointer p3) ∧ w'.cell? ⟨b, 7, none⟩ = some (.pointer p4)) (first | exact K0.out | exact Gr.keep14 G3 K0.out | exact Gr.keep14 (G3.trans G4) K0.out)
    (first
    | (go_at_call 53; refine (CJ2.out _ t1 (G02.drew.trans G3) i1 g1 (CT.out _ _ ht1)).mono ?_; rintro e w4 ⟨t, rfl, ht, hi, hg, G4⟩)
    | (go_at_call 53; refine (CJ1.out _ G02.drew).mono ?_; rintro e w3 ⟨t1, rfl, ht1, i1, g1, G3⟩))
  obtain ⟨pt, hpt⟩ := ptrE t
  have HPT := hide hpt
  rw [hpt]
  clear hpt
  have F := hide (FIN.out t1 t _ _ w4 ((G02.drew.trans G3).size) ht1 ht hi hg ((G02.drew.trans G3).trans G4))
  rw [HPT.out] at F
  clear ht ht1 hi hg i1 g1 CJ1 CJ2 FIN G3 G4 G02 K0 CT
  go_wp2_with fail
  go_ret
  exact F.out
end Go.Proofs.Qxb6609544aDoor
