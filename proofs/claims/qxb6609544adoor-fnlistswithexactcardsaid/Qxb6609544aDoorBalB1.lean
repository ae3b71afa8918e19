import Derived.Test.Qxb6609544aDoorWgt
namespace Go.Proofs.Qxb6609544aDoor
open Go.RowKit Go.Sort Go.Deep

set_option maxHeartbeats 8000000 in
set_option maxRecDepth 20000 in
/-- The left side is heavy: a single rotation. -/
theorem balB1 (pz : Addr) (x y : Rg) (ll lr r : TT) (b s : Nat) (a : Ad) (w : World) (hz : Zs pz w) (hl : InT pz w (.node b 0 (y, s, a) ll lr)) (hr : InT pz w r) (gl : Good (.node b 0 (y, s, a) ll lr)) (gr : Good r) (bl : Bal (.node b 0 (y, s, a) ll lr)) (br : Bal r) (nb : NB (.node b 0 (y, s, a) ll lr) r) (hcl : cnt (.node b 0 (y, s, a) ll lr) ≤ 500000) (hcr : cnt r ≤ 500000) (h1 : 3 * (cnt r + 1) < cnt (.node b 0 (y, s, a) ll lr) + 1) (h2 : cnt lr + 1 < 2 * (cnt ll + 1)) :
    Calls Tryd.prog 72 #[.pointer (some ⟨b, 0, none⟩), .agg (x.ent pz).toArray, r.ptr] w fun e w' => Bald pz w w' x (.node b 0 (y, s, a) ll lr) r e := by
  have hcll : cnt ll ≤ 500000 := by simp only [cnt] at hcl; omega
  have hclr : cnt lr ≤ 500000 := by simp only [cnt] at hcl; omega
  obtain ⟨-, hb, ill, ilr⟩ := id hl
  obtain ⟨-, -, gll, glr⟩ := id gl
  have CW1 := hide (fun W (G : Gr w W) => weight79 pz _ W (hl.gr G) gl (by omega))
  have CW2 := hide (fun W (G : Gr w W) => weight79 pz r W (hr.gr G) gr (by omega))
  have CW3 := hide (fun W (G : Gr w W) => weight79g pz ll W (ill.gr G) gll (by omega))
  have CW4 := hide (fun W (G : Gr w W) => weight79g pz lr W (ilr.gr G) glr (by omega))
  have CJ1 := hide (fun W (G : Gr w W) => joinT pz x lr r W (hz.gr G) (ilr.gr G) (hr.gr G) glr gr (by omega) (by omega))
  have CJ2 := hide (fun W (t1 : TT) (G : Gr w W) (hi : InT pz W t1) (hg : Good t1) (hc : cnt t1 ≤ 1048576) => joinT pz y ll t1 W (hz.gr G) (ill.gr G) hi gll hg (by omega) hc)
  have CT := hide (fun (t1 : TT) (w1 : World) (ht : ∃ b, t1 = .node b 0 (x, cnt lr + cnt r + 1, mxl (mxl x.l lr) r) lr r ∧ w1.heap.size ≤ b) => (show cnt t1 ≤ 1048576 by obtain ⟨b, rfl, _⟩ := ht; simp only [cnt]; omega))
  have FIN := hide (fun (t1 t : TT) (w1 w0 w' : World) (hw : w.heap.size ≤ w0.heap.size) ht1 ht hi hg (G : Gr w w') => bald_B1 (pz := pz) (w := w) (w0 := w0) (w' := w') (w1 := w1) (x := x) (r := r) (t := t) (t1 := t1) ht1 ht hw bl br nb h1 h2 hi hg G)
  obtain ⟨p2, hp2⟩ := ptrE r
  obtain ⟨p3, hp3⟩ := ptrE ll
  obtain ⟨p4, hp4⟩ := ptrE lr
  have d0 : decide (3 * ((cnt (.node b 0 (y, s, a) ll lr) : Int) + 1) < (cnt r : Int) + 1) = false := by simp; omega
  have d1 : decide (3 * ((cnt r : Int) + 1) < (cnt (.node b 0 (y, s, a) ll lr) : Int) + 1) = true := by simp; omega
  have d2 : decide ((cnt lr : Int) + 1 < 2 * ((cnt ll : Int) + 1)) = true := by simp; omega
  have lI : (cnt (.node b 0 (y, s, a) ll lr) : Int) ≤ 1048576 := by omega
  have rI : (cnt r : Int) ≤ 1048576 := by omega
  have rlI : (cnt ll : Int) ≤ 1048576 := by omega
  have rrI : (cnt lr : Int) ≤ 1048576 := by omega
  have e2 : (BT.node b 0 (y, s, a) ll lr : TT).ptr = .pointer (some ⟨b, 0, none⟩) := rfl
  rw [e2] at CW1
  simp only [hp2, hp3, hp4, Rg.ent] at *
  have HB := hide hb
  have hm := mixed
  have hq := cellQ
  generalize hcd : cnt (.node b 0 (y, s, a) ll lr) = cl at *
  clear hcd
  generalize cnt r = cr at *
  generalize cnt ll = cll at *
  generalize cnt lr = clr at *
  generalize lo x.f = xf at *
  generalize lo x.l = xl at *
  generalize lo y.f = yf at *
  generalize lo y.l = yl at *
  clear hz hl hr gl gr bl br nb h1 h2 hp2 hp3 hp4 hcl hcr hcll hclr hb ill ilr gll glr e2
  have G0 : Gr w (w.alloc (.cells #[.int .u64 0, .int .u64 xf, .pointer (some pz), .int .u64 0, .int .u64 xl, .pointer (some pz)] 49)) := (Gr.refl w).alloc _
  have HB1 := hide (G0.blk HB.out)
  obtain ⟨r0, r1, r2, r3, r4, r5, r6, r7⟩ := nd8 HB.out
  have hbl := ndL HB.out
  go_enter Tryd.func72, Tryd.ntmps72
  go_wp2_with fail
  refine (CW1.out _ G0).mono ?_
  rintro e w1 ⟨rfl, rfl⟩
  go_wp2_with fail
  refine (CW2.out _ G0).mono ?_
  rintro e w1 ⟨rfl, rfl⟩
  go_wp2_with fail
  refine (CW2.out _ G0).mono ?_
  rintro e w1 ⟨rfl, rfl⟩
  go_wp2_with fail
  refine (CW1.out _ G0).mono ?_
  rintro e w1 ⟨rfl, rfl⟩
  clear CW1 CW2
  have hwr := wrapS (2 * ((cll : Int) + 1)) (by omega) (by omega)
  go_upto_region 7 with fail
  clear r0 r1 r2 r3 r4 r5
  have r6' := G0.cell r6
  have r7' := G0.cell r7
  have hbl' := ndL HB1.out
  refine wp_region_quiet_grown hm (by kernel_rfl) ?_
  repeat (quiet_step (first
    | (go_at_call_of 79 p3; exact callsQ (CW3.out _ (G0.trans (Gr.of _ _ _))))
    | (go_at_call_of 79 p4; exact callsQ (CW4.out _ (G0.trans (Gr.of _ _ _))))))
  refine wpQuiet_nil ?_
  intro w2 hw2
  have G2 := Gr.ofEx hw2
  clear hw2 CW3 CW4 r6' r7'
  have G02 := G0.trans G2
  have BX := G2.blk (new1 w (.cells #[.int .u64 0, .int .u64 xf, .pointer (some pz), .int .u64 0, .int .u64 xl, .pointer (some pz)] 49))
  have HB2 := G2.blk HB1.out
  have hlx := ndL BX
  have hlb := ndL HB2
  obtain ⟨x0, x1, x2, x3, x4, x5⟩ := six49 BX
  obtain ⟨q0, q1, q2, q3, q4, q5, q6, q7⟩ := nd8 HB2
  have K0 := hide (p := (fun w' => w'.cell? ⟨w.heap.size, 0, none⟩ = some (.int .u64 0) ∧ w'.cell? ⟨w.heap.size, 1, none⟩ = some (.int .u64 xf) ∧ w'.cell? ⟨w.heap.size, 2, none⟩ = some (.pointer (some pz)) ∧ w'.cell? ⟨w.heap.size, 3, none⟩ = some (.int .u64 0) ∧ w'.cell? ⟨w.heap.size, 4, none⟩ = some (.int .u64 xl) ∧ w'.cell? ⟨w.heap.size, 5, none⟩ = some (.pointer (some pz)) ∧ w'.cell? ⟨b, 0, none⟩ = some (.int .u64 0) ∧ w'.cell? ⟨b, 1, none⟩ = some (.int .u64 yf) ∧ w'.cell? ⟨b, 2, none⟩ = some (.pointer (some pz)) ∧ w'.cell? ⟨b, 3, none⟩ = some (.int .u64 0) ∧ w'.cell? ⟨b, 4, none⟩ = some (.int .u64 yl) ∧ w'.cell? ⟨b, 5, none⟩ = some (.pointer (some pz)) ∧ w'.cell? ⟨b, 6, none⟩ = some (.pointer p3) ∧ w'.cell? ⟨b, 7, none⟩ = some (.pointer p4)) w2) ⟨x0, x1, x2, x3, x4, x5, q0, q1, q2, q3, q4, q5, q6, q7⟩
  clear r6 r7 hbl hbl' HB HB1 BX HB2 G2 G0 hq hm
  go_upto_region 8 with fail
  go_region_held3 (fun w' => w'.cell? ⟨w.heap.size, 0, none⟩ = some (.int .u64 0) ∧ w'.cell? ⟨w.heap.size, 1, none⟩ = some (.int .u64 xf) ∧ w'.cell? ⟨w.heap.size, 2, none⟩ = some (.pointer (some pz)) ∧ w'.cell? ⟨w.heap.size, 3, none⟩ = some (.int .u64 0) ∧ w'.cell? ⟨w.heap.size, 4, none⟩ = some (.int .u64 xl) ∧ w'.cell? ⟨w.heap.size, 5, none⟩ = some (.pointer (some pz)) ∧ w'.cell? ⟨b, 0, none⟩ = some (.int .u64 0) ∧ w'.cell? ⟨b, 1, none⟩ = some (.int .u64 yf) ∧ w'.cell? ⟨b, 2, none⟩ = some (.pointer (some pz)) ∧ w'.cell? ⟨b, 3, none⟩ = some (.int .u64 0) ∧ w'.cell? ⟨b, 4, none⟩ = some (.int .u64 yl) ∧ w'.cell? ⟨b, 5, none⟩ = some (.pointer (some pz)) ∧ w'.cell? ⟨b, 6, none⟩ = some (.pointer p3) ∧ w'.cell? ⟨b, 7, none⟩ = some (.pointer p4)) (first | exact K0.out | exact Gr.keep14 G3 K0.out | exact Gr.keep14 (G3.trans G4) K0.out)
    (first
    | (go_at_call 53; refine (CJ2.out _ t1 (G02.drew.trans G3) i1 g1 (CT.out _ _ ht1)).mono ?_; rintro e w4 ⟨t, rfl, ht, hi, hg, G4⟩)
    | (go_at_call 53; refine (CJ1.out _ G02.drew).mono ?_; rintro e w3 ⟨t1, rfl, ht1, i1, g1, G3⟩))
  obtain ⟨pt, hpt⟩ := ptrE t
  have HPT := hide hpt
  rw [hpt]
  clear hpt
  have F := hide (FIN.out t1 t _ _ w4 ((G02.drew.trans G3).size) ht1 ht hi hg ((G02.drew.trans G3).trans G4))
  rw [HPT.out] at F
  clear ht ht1 hi hg i1 g1 CJ1 CJ2 FIN G3 G4 G02 K0 CT
  go_wp2_with fail
  go_ret
  exact F.out
end Go.Proofs.Qxb6609544aDoor
