import Derived.Test.Qxb6609544aDoorWgt
namespace Go.Proofs.Qxb6609544aDoor
open Go.RowKit Go.Sort Go.Deep

set_option maxHeartbeats 8000000 in
set_option maxRecDepth 20000 in
/-- The right side is heavy: a double rotation. -/
theorem balA2 (pz : Addr) (x y z : Rg) (l il ir o1 : TT) (b s bi si : Nat) (a ai : Ad) (w : World) (hz : Zs pz w) (hl : InT pz w l) (hr : InT pz w (.node b 0 (y, s, a) (.node bi 0 (z, si, ai) il ir) o1)) (gl : Good l) (gr : Good (.node b 0 (y, s, a) (.node bi 0 (z, si, ai) il ir) o1)) (bl : Bal l) (br : Bal (.node b 0 (y, s, a) (.node bi 0 (z, si, ai) il ir) o1)) (nb : NB l (.node b 0 (y, s, a) (.node bi 0 (z, si, ai) il ir) o1)) (hcl : cnt l ≤ 500000) (hcr : cnt (.node b 0 (y, s, a) (.node bi 0 (z, si, ai) il ir) o1) ≤ 500000) (h1 : 3 * (cnt l + 1) < cnt (.node b 0 (y, s, a) (.node bi 0 (z, si, ai) il ir) o1) + 1) (h2 : ¬ cnt (.node bi 0 (z, si, ai) il ir) + 1 < 2 * (cnt o1 + 1)) :
    Calls Tryd.prog 72 #[l.ptr, .agg (x.ent pz).toArray, .pointer (some ⟨b, 0, none⟩)] w fun e w' => Bald pz w w' x l (.node b 0 (y, s, a) (.node bi 0 (z, si, ai) il ir) o1) e := by
  have hco : cnt o1 ≤ 500000 := by simp only [cnt] at hcr; omega
  have hcil : cnt il ≤ 500000 := by simp only [cnt] at hcr; omega
  have hcir : cnt ir ≤ 500000 := by simp only [cnt] at hcr; omega
  have hcin : cnt (.node bi 0 (z, si, ai) il ir) ≤ 500000 := by simp only [cnt] at hcr ⊢; omega
  obtain ⟨-, hb, iin, io1⟩ := id hr
  obtain ⟨-, -, gin, go1⟩ := id gr
  obtain ⟨-, hbi, iil, iir⟩ := id iin
  obtain ⟨-, -, gil, gir⟩ := id gin
  have CW1 := hide (fun W (G : Gr w W) => weight79 pz l W (hl.gr G) gl (by omega))
  have CW2 := hide (fun W (G : Gr w W) => weight79 pz _ W (hr.gr G) gr (by omega))
  have CW3 := hide (fun W (G : Gr w W) => weight79g pz (.node bi 0 (z, si, ai) il ir) W (iin.gr G) gin (by omega))
  have CW4 := hide (fun W (G : Gr w W) => weight79g pz o1 W (io1.gr G) go1 (by omega))
  have CJ1 := hide (fun W (G : Gr w W) => joinT pz x l il W (hz.gr G) (hl.gr G) (iil.gr G) gl gil (by omega) (by omega))
  have CJ2 := hide (fun W (G : Gr w W) => joinT pz y ir o1 W (hz.gr G) (iir.gr G) (io1.gr G) gir go1 (by omega) (by omega))
  have CJ3 := hide (fun W (t1 t2 : TT) (G : Gr w W) (hi : InT pz W t1) (hg : Good t1) (hc : cnt t1 ≤ 1048576) (hi2 : InT pz W t2) (hg2 : Good t2) (hc2 : cnt t2 ≤ 1048576) => joinT pz z t1 t2 W (hz.gr G) hi hi2 hg hg2 hc hc2)
  have CT1 := hide (fun (t1 : TT) (w1 : World) (ht : ∃ b, t1 = .node b 0 (x, cnt l + cnt il + 1, mxl (mxl x.l l) il) l il ∧ w1.heap.size ≤ b) => (show cnt t1 ≤ 1048576 by obtain ⟨b, rfl, _⟩ := ht; simp only [cnt]; omega))
  have CT2 := hide (fun (t2 : TT) (w1 : World) (ht : ∃ b, t2 = .node b 0 (y, cnt ir + cnt o1 + 1, mxl (mxl y.l ir) o1) ir o1 ∧ w1.heap.size ≤ b) => (show cnt t2 ≤ 1048576 by obtain ⟨b, rfl, _⟩ := ht; simp only [cnt]; omega))
  have FIN := hide (fun (t1 t2 t : TT) (w1 w2 w0 w' : World) (hw : w.heap.size ≤ w0.heap.size) ht1 ht2 ht hi hg (G : Gr w w') => bald_A2 (pz := pz) (w := w) (w0 := w0) (w' := w') (w1 := w1) (w2 := w2) (x := x) (l := l) (t := t) (t1 := t1) (t2 := t2) ht1 ht2 ht hw bl br nb h1 h2 hi hg G)
  obtain ⟨p0, hp0⟩ := ptrE l
  obtain ⟨po, hpo⟩ := ptrE o1
  obtain ⟨pil, hpil⟩ := ptrE il
  obtain ⟨pir, hpir⟩ := ptrE ir
  have d1 : decide (3 * ((cnt l : Int) + 1) < (cnt (.node b 0 (y, s, a) (.node bi 0 (z, si, ai) il ir) o1) : Int) + 1) = true := by simp; omega
  have d2 : decide ((cnt (.node bi 0 (z, si, ai) il ir) : Int) + 1 < 2 * ((cnt o1 : Int) + 1)) = false := by simp; omega
  have bI : (cnt (.node b 0 (y, s, a) (.node bi 0 (z, si, ai) il ir) o1) : Int) ≤ 1048576 := by omega
  have tI : (cnt l : Int) ≤ 1048576 := by omega
  have inI : (cnt (.node bi 0 (z, si, ai) il ir) : Int) ≤ 1048576 := by omega
  have oI : (cnt o1 : Int) ≤ 1048576 := by omega
  have e2 : (BT.node b 0 (y, s, a) (.node bi 0 (z, si, ai) il ir) o1 : TT).ptr = .pointer (some ⟨b, 0, none⟩) := rfl
  have e3 : (BT.node bi 0 (z, si, ai) il ir : TT).ptr = .pointer (some ⟨bi, 0, none⟩) := rfl
  rw [e2] at CW2
  rw [e3] at CW3 hb
  simp only [hp0, hpo, hpil, hpir, Rg.ent] at *
  have HB := hide hb
  have HBI := hide hbi
  have hm := mixed
  have hq := cellQ
  generalize hcd : cnt (.node b 0 (y, s, a) (.node bi 0 (z, si, ai) il ir) o1) = cbig at *
  clear hcd
  generalize hcd : cnt (.node bi 0 (z, si, ai) il ir) = cin at *
  clear hcd
  generalize cnt l = c0 at *
  generalize cnt o1 = co at *
  generalize cnt il = cil at *
  generalize cnt ir = cir at *
  generalize lo x.f = xf at *
  generalize lo x.l = xl at *
  generalize lo y.f = yf at *
  generalize lo y.l = yl at *
  generalize lo z.f = zf at *
  generalize lo z.l = zl at *
  clear hz hl hr gl gr bl br nb h1 h2 hp0 hpo hpil hpir hcl hcr hco hcil hcir hcin hb hbi iin io1 gin go1 iil iir gil gir e2 e3
  have G0 : Gr w (w.alloc (.cells #[.int .u64 0, .int .u64 xf, .pointer (some pz), .int .u64 0, .int .u64 xl, .pointer (some pz)] 49)) := (Gr.refl w).alloc _
  have HB1 := hide (G0.blk HB.out)
  have HBI1 := hide (G0.blk HBI.out)
  obtain ⟨-, -, -, -, -, -, r6, r7⟩ := nd8 HB.out
  have hbl := ndL HB.out
  go_enter Tryd.func72, Tryd.ntmps72
  go_wp2_with fail
  refine (CW1.out _ G0).mono ?_
  rintro e w1 ⟨rfl, rfl⟩
  go_wp2_with fail
  refine (CW2.out _ G0).mono ?_
  rintro e w1 ⟨rfl, rfl⟩
  clear CW1 CW2
  have hwr := wrapS (2 * ((co : Int) + 1)) (by omega) (by omega)
  go_upto_region 2 with fail
  have r6' := G0.cell r6
  have r7' := G0.cell r7
  have hbl' := ndL HB1.out
  refine wp_region_quiet_grown hm (by kernel_rfl) ?_
  repeat (quiet_step (first
    | (go_at_call_of 79 po; exact callsQ (CW4.out _ (G0.trans (Gr.of _ _ _))))
    | (go_at_call_of 79 bi; exact callsQ (CW3.out _ (G0.trans (Gr.of _ _ _))))))
  refine wpQuiet_nil ?_
  intro w2 hw2
  have G2 := Gr.ofEx hw2
  clear hw2 CW3 CW4 r6' r7'
  have G02 := G0.trans G2
  have BX := G2.blk (new1 w (.cells #[.int .u64 0, .int .u64 xf, .pointer (some pz), .int .u64 0, .int .u64 xl, .pointer (some pz)] 49))
  have HB2 := G2.blk HB1.out
  have HBI2 := G2.blk HBI1.out
  have hlx := ndL BX
  have hlb := ndL HB2
  have hli := ndL HBI2
  obtain ⟨x0, x1, x2, x3, x4, x5⟩ := six49 BX
  obtain ⟨q0, q1, q2, q3, q4, q5, q6, q7⟩ := nd8 HB2
  obtain ⟨m0, m1, m2, m3, m4, m5, m6, m7⟩ := nd8 HBI2
  have K0 := hide (p := (fun w' => w'.cell? ⟨w.heap.size, 0, none⟩ = some (.int .u64 0) ∧ w'.cell? ⟨w.heap.size, 1, none⟩ = some (.int .u64 xf) ∧ w'.cell? ⟨w.heap.size, 2, none⟩ = some (.pointer (some pz)) ∧ w'.cell? ⟨w.heap.size, 3, none⟩ = some (.int .u64 0) ∧ w'.cell? ⟨w.heap.size, 4, none⟩ = some (.int .u64 xl) ∧ w'.cell? ⟨w.heap.size, 5, none⟩ = some (.pointer (some pz)) ∧ w'.cell? ⟨b, 0, none⟩ = some (.int .u64 0) ∧ w'.cell? ⟨b, 1, none⟩ = some (.int .u64 yf) ∧ w'.cell? ⟨b, 2, none⟩ = some (.pointer (some pz)) ∧ w'.cell? ⟨b, 3, none⟩ = some (.int .u64 0) ∧ w'.cell? ⟨b, 4, none⟩ = some (.int .u64 yl) ∧ w'.cell? ⟨b, 5, none⟩ = some (.pointer (some pz)) ∧ w'.cell? ⟨b, 6, none⟩ = some (.pointer (some ⟨bi, 0, none⟩)) ∧ w'.cell? ⟨b, 7, none⟩ = some (.pointer po) ∧ w'.cell? ⟨bi, 0, none⟩ = some (.int .u64 0) ∧ w'.cell? ⟨bi, 1, none⟩ = some (.int .u64 zf) ∧ w'.cell? ⟨bi, 2, none⟩ = some (.pointer (some pz)) ∧ w'.cell? ⟨bi, 3, none⟩ = some (.int .u64 0) ∧ w'.cell? ⟨bi, 4, none⟩ = some (.int .u64 zl) ∧ w'.cell? ⟨bi, 5, none⟩ = some (.pointer (some pz)) ∧ w'.cell? ⟨bi, 6, none⟩ = some (.pointer pil) ∧ w'.cell? ⟨bi, 7, none⟩ = some (.pointer pir)) w2) ⟨x0, x1, x2, x3, x4, x5, q0, q1, q2, q3, q4, q5, q6, q7, m0, m1, m2, m3, m4, m5, m6, m7⟩
  clear r6 r7 hbl hbl' HB HB1 HBI HBI1 BX HB2 HBI2 G2 G0 hq hm
  go_upto_region 5 with fail
  go_region_held3 (fun w' => w'.cell? ⟨w.heap.size, 0, none⟩ = some (.int .u64 0) ∧ w'.cell? ⟨w.heap.size, 1, none⟩ = some (.int .u64 xf) ∧ w'.cell? ⟨w.heap.size, 2, none⟩ = some (.pointer (some pz)) ∧ w'.cell? ⟨w.heap.size, 3, none⟩ = some (.int .u64 0) ∧ w'.cell? ⟨w.heap.size, 4, none⟩ = some (.int .u64 xl) ∧ w'.cell? ⟨w.heap.size, 5, none⟩ = some (.pointer (some pz)) ∧ w'.cell? ⟨b, 0, none⟩ = some (.int .u64 0) ∧ w'.cell? ⟨b, 1, none⟩ = some (.int .u64 yf) ∧ w'.cell? ⟨b, 2, none⟩ = some (.pointer (some pz)) ∧ w'.cell? ⟨b, 3, none⟩ = some (.int .u64 0) ∧ w'.cell? ⟨b, 4, none⟩ = some (.int .u64 yl) ∧ w'.cell? ⟨b, 5, none⟩ = some (.pointer (some pz)) ∧ w'.cell? ⟨b, 6, none⟩ = some (.pointer (some ⟨bi, 0, none⟩)) ∧ w'.cell? ⟨b, 7, none⟩ = some (.pointer po) ∧ w'.cell? ⟨bi, 0, none⟩ = some (.int .u64 0) ∧ w'.cell? ⟨bi, 1, none⟩ = some (.int .u64 zf) ∧ w'.cell? ⟨bi, 2, none⟩ = some (.pointer (some pz)) ∧ w'.cell? ⟨bi, 3, none⟩ = some (.int .u64 0) ∧ w'.cell? ⟨bi, 4, none⟩ = some (.int .u64 zl) ∧ w'.cell? ⟨bi, 5, none⟩ = some (.pointer (some pz)) ∧ w'.cell? ⟨bi, 6, none⟩ = some (.pointer pil) ∧ w'.cell? ⟨bi, 7, none⟩ = some (.pointer pir)) (first | exact K0.out | exact Gr.keep22 G3 K0.out | exact Gr.keep22 (G3.trans G4) K0.out | exact Gr.keep22 ((G3.trans G4).trans G5) K0.out)
    (first
    | (go_at_call 53; refine (CJ3.out _ t1 t2 ((G02.drew.trans G3).trans G4) (i1.gr G4) g1 (CT1.out _ _ ht1) i2 g2 (CT2.out _ _ ht2)).mono ?_; rintro e w5 ⟨t, rfl, ht, hi, hg, G5⟩)
    | (go_at_call 53; refine (CJ2.out _ (G02.drew.trans G3)).mono ?_; rintro e w4 ⟨t2, rfl, ht2, i2, g2, G4⟩)
    | (go_at_call 53; refine (CJ1.out _ G02.drew).mono ?_; rintro e w3 ⟨t1, rfl, ht1, i1, g1, G3⟩))
  obtain ⟨pt, hpt⟩ := ptrE t
  have HPT := hide hpt
  rw [hpt]
  clear hpt
  have F := hide (FIN.out t1 t2 t _ _ _ w5 (((G02.drew.trans G3).trans G4).size) ht1 ht2 ht hi hg (((G02.drew.trans G3).trans G4).trans G5))
  rw [HPT.out] at F
  clear ht ht1 ht2 hi hg i1 g1 i2 g2 CJ1 CJ2 CJ3 FIN G3 G4 G5 G02 K0 CT1 CT2
  go_wp2_with fail
  go_ret
  exact F.out
end Go.Proofs.Qxb6609544aDoor
