import Derived.Test.Qxb6609544aDoorLawP
import Derived.Test.Qxb6609544aDoorTreeIs
import Derived.Test.Qxb6609544aDoorRowF
import Derived.Deep.DeepCutAuto
namespace Go.Proofs.Qxb6609544aDoor
open Go.RowKit Go.Sort Go.Deep

set_option maxHeartbeats 8000000 in
set_option maxRecDepth 20000 in
theorem law6 : LawC 6 := by
  intro pz sv tv l m st x W hz hsl hsm hl hm hst hx
  obtain ⟨a1, c1, hsf⟩ := hsl.form
  obtain ⟨a2, c2, htf⟩ := hsm.form
  obtain ⟨n1, hn1⟩ : ∃ n, l.length = n := ⟨_, rfl⟩
  obtain ⟨n2, hn2⟩ : ∃ n, m.length = n := ⟨_, rfl⟩
  obtain ⟨ns, hns⟩ : ∃ n, st.size = n := ⟨_, rfl⟩
  rw [hn1] at hsf hl
  rw [hn2] at htf hm
  have HZ := hide hz
  have HSL := hide hsl
  have HSM := hide hsm
  have HX := hide hx
  have HN1 := hide hn1
  have HN2 := hide hn2
  have hstl : ns ≤ maxLen := by rw [← hns]; exact hst
  have C22 := hide (fun W => zzBytes22 a1 a2 n1 n2 c1 c2 st x W hl hm hst)
  have C20 := hide (fun W' (G : Gr W W') => premise sv tv l m st x hx W' (hsl.gr G) (hsm.gr G) (by rw [hn1]; exact hl) (by rw [hn2]; exact hm))
  rw [hsf, htf] at C20
  rw [hsf, htf]
  have HSF := hide hsf
  have HTF := hide htf
  have b0 := new1 W (.cells #[.int .u8 x.f.a, .int .u8 x.f.b, .int .u8 x.f.c, .int .u8 x.f.d, .int .u8 x.l.a, .int .u8 x.l.b, .int .u8 x.l.c, .int .u8 x.l.d] 37)
  have HB0 := hide b0
  unfold maxLen at hl hm hstl
  clear hz hsl hsm hx hn1 hn2 hst hsf htf b0
  simp only [Rg.val, Rg.cells] at *
  go_enter Tryd.func6, Tryd.ntmps6
  go_wp2_with fail
  refine (C22.out _).mono ?_
  rintro e w1 ⟨⟨bb, rfl⟩, G1⟩
  clear C22
  have G01 := ((Gr.refl W).alloc (.cells #[.int .u8 x.f.a, .int .u8 x.f.b, .int .u8 x.f.c, .int .u8 x.f.d, .int .u8 x.l.a, .int .u8 x.l.b, .int .u8 x.l.c, .int .u8 x.l.d] 37)).trans G1
  have B1 := hide (G1.blk HB0.out)
  clear HB0 G1
  cases bb with
  | false =>
    go_wp2_with fail
    go_ret
    exact ⟨rfl, G01.1⟩
  | true =>
  by_cases hc1 : n1 ≤ 131072
  case neg =>
    have hd : decide (131072 < (n1 : Int)) = true := by simp; omega
    go_wp2_with fail
    go_ret
    exact ⟨rfl, G01.1⟩
  by_cases hc2 : n2 ≤ 131072
  case neg =>
    have hd1 : decide (131072 < (n1 : Int)) = false := by simp; omega
    have hd : decide (131072 < (n2 : Int)) = true := by simp; omega
    go_wp2_with fail
    go_ret
    exact ⟨rfl, G01.1⟩
  by_cases hc3 : ns ≤ 1048576
  case neg =>
    have hd1 : decide (131072 < (n1 : Int)) = false := by simp; omega
    have hd2 : decide (131072 < (n2 : Int)) = false := by simp; omega
    have hd : decide (1048576 < (ns : Int)) = true := by simp; omega
    go_wp2_with fail
    go_ret
    exact ⟨rfl, G01.1⟩
  have hd1 : decide (131072 < (n1 : Int)) = false := by simp; omega
  have hd2 : decide (131072 < (n2 : Int)) = false := by simp; omega
  have hd3 : decide (1048576 < (ns : Int)) = false := by simp; omega
  by_cases hc4 : 8 * n1 + 8 * n2 + ns + 8 ≤ 1048576
  case neg =>
    have hd : decide (1048576 < 8 * (n1 : Int) + 8 * (n2 : Int) + (ns : Int) + 8) = true := by simp; omega
    go_wp2_with fail
    go_ret
    exact ⟨rfl, G01.1⟩
  have hd4 : decide (1048576 < 8 * (n1 : Int) + 8 * (n2 : Int) + (ns : Int) + 8) = false := by simp; omega
  obtain ⟨k1, _⟩ := blkC B1.out
  have y0 := k1 0
  have y1 := k1 1
  have y2 := k1 2
  have y3 := k1 3
  have y4 := k1 4
  have y5 := k1 5
  have y6 := k1 6
  have y7 := k1 7
  simp at y0 y1 y2 y3 y4 y5 y6 y7
  clear k1
  go_wp2_with fail
  refine (C20.out _ G01).mono ?_
  rintro e w2 ⟨⟨bb, rfl, hsay⟩, G2⟩
  clear C20 hd1 hd2 hd3 hd4
  have G02 := G01.trans G2
  cases bb with
  | false =>
    clear hsay
    go_wp2_with fail
    go_ret
    exact ⟨rfl, G02.1⟩
  | true =>
  obtain ⟨a, ha, hla⟩ := list_of (hsay rfl)
  have HLA := hide hla
  clear hsay hla
  have C10a := hide (entries10 pz sv l (by have := HN1.out; omega) w2 (HSL.out.gr G02) (HZ.out.gr G02))
  rw [HSF.out, HN1.out] at C10a
  have B2 := hide (G2.blk B1.out)
  clear B1 G01 G2 y0 y1 y2 y3 y4 y5 y6 y7
  go_wp2_with fail
  refine C10a.out.mono ?_
  rintro e w3 ⟨rfl, q3, G3⟩
  clear C10a
  have G03 := G02.trans G3
  have C10b := hide (entries10 pz tv m (by have := HN2.out; omega) w3 (HSM.out.gr G03) (HZ.out.gr G03))
  rw [HTF.out, HN2.out] at C10b
  have Q3 := hide q3
  have B3 := hide (G3.blk B2.out)
  clear q3 B2
  go_wp2_with fail
  refine C10b.out.mono ?_
  rintro e w4 ⟨rfl, q4, G4⟩
  clear C10b
  have G04 := G03.trans G4
  have C9 := hide (newLists pz w2.heap.size n1 l HN1.out (by omega) HSL.out.1 w3.heap.size n2 m HN2.out (by omega) HSM.out.1 w4 (HZ.out.gr G04) (G4.blk Q3.out) q4)
  have B4 := hide (G4.blk B3.out)
  clear q4 Q3 B3 G3
  go_wp2_with fail
  refine C9.out.mono ?_
  rintro e w5 ⟨b, t1, t2, rfl, hb, LS, S1, S2, I1, I2, BB⟩
  clear C9
  have B05 : Below W.heap.size W w5 := G04.1.trans (BB.mono G04.size)
  have HB05 := hide B05
  have q5 := (BB.block _ (ndL B4.out)).trans B4.out
  have Z5 := hide (HZ.out.below B05)
  obtain ⟨p1, hp1⟩ := ptrE t1
  obtain ⟨p2, hp2⟩ := ptrE t2
  rw [hp1, hp2] at LS
  have HLS := hide LS
  have P1 := hide hp1
  have P2 := hide hp2
  have SS1 := hide S1
  have SS2 := hide S2
  have I1' := hide I1
  have I2' := hide I2
  have hbl := ndL LS
  obtain ⟨k1, _⟩ := blkC q5
  have y0 := k1 0
  have y1 := k1 1
  have y2 := k1 2
  have y3 := k1 3
  have y4 := k1 4
  have y5 := k1 5
  have y6 := k1 6
  have y7 := k1 7
  simp at y0 y1 y2 y3 y4 y5 y6 y7
  have B5 := hide q5
  have C21 := hide (entry4 x HX.out pz w5 Z5.out)
  simp only [Ad.val] at C21
  clear k1 B4 LS hp1 hp2 S1 S2 I1 I2 BB B05 G02 G03 G04 G4 q5
  go_wp2_with fail
  refine C21.out.mono ?_
  rintro e w6 ⟨rfl, G6⟩
  clear C21
  have C23 := hide (chgEmpty23 pz b p1 p2 a x w6 (HLS.out.gr G6))
  rw [← HLA.out] at C23
  simp only [Rg.ent] at *
  generalize hxf : lo x.f = xf at *
  generalize hxl : lo x.l = xl at *
  clear hxf hxl y0 y1 y2 y3 y4 y5 y6 y7
  go_wp2_with fail
  refine C23.out.mono ?_
  rintro e w7 ⟨c, t, rfl, hc, rfl, _, LC, G7⟩
  clear C23
  have G57 := G6.trans G7
  have LB := HLS.out.gr G57
  have hcb : c ≠ b := by have := G6.size; omega
  obtain ⟨p', q', E0, E1, E2⟩ : ∃ p' q' : Option Addr, LsAt w7 c (.pointer p') (.pointer q') ∧ (if a then p' else q') = none ∧ (if !a then p' else q') = (if !a then p1 else p2) := by
    cases a with
    | true => exact ⟨none, p2, LC, rfl, rfl⟩
    | false => exact ⟨p1, none, LC, rfl, rfl⟩
  have eqc := neLists E0 LB hcb
  have C24a := hide (fun W (G : Gr w7 W) => pick24 c p' q' a W (E0.gr G))
  rw [E1] at C24a
  have C24b := hide (fun W (G : Gr w7 W) => pick24 c p' q' (!a) W (E0.gr G))
  rw [E2] at C24b
  have C24c := hide (fun W (G : Gr w7 W) => pick24 b p1 p2 (!a) W (LB.gr G))
  have C12 := hide (fun W p => root12 p W)
  have HLB := hide LB
  have HG57 := hide G57
  clear LC E0 E1 E2 G6 G7 LB G57
  generalize (if (!a) = true then p1 else p2) = o at *
  have nn := neNode o
  go_wp2_with fail
  refine (C24a.out _ (Gr.refl _)).mono ?_
  rintro e w8 ⟨rfl, G8⟩
  go_wp2_with fail
  refine (C12.out _ _).mono ?_
  rintro e w9 ⟨rfl, G9⟩
  have G79 := G8.trans G9
  clear C24a G8 G9 eqc
  go_wp2_with fail
  refine (C24b.out _ G79).mono ?_
  rintro e w10 ⟨rfl, G10⟩
  go_wp2_with fail
  refine (C12.out _ _).mono ?_
  rintro e w11 ⟨rfl, G11⟩
  have G711 := G79.trans (G10.trans G11)
  clear C24b G10 G11 G79
  go_wp2_with fail
  refine (C24c.out _ G711).mono ?_
  rintro e w12 ⟨rfl, G12⟩
  go_wp2_with fail
  refine (C12.out _ _).mono ?_
  rintro e w13 ⟨rfl, G13⟩
  have G713 := G711.trans (G12.trans G13)
  clear C24c G12 G13 G711
  have B013 : Below W.heap.size W w13 := HB05.out.trans ((HG57.out.trans G713).1.mono HB05.out.size)
  have LB := HLB.out.gr G713
  have q13 := G713.blk (HG57.out.blk B5.out)
  have Z13 := Z5.out.gr (HG57.out.trans G713)
  have i1 := I1'.out.gr (HG57.out.trans G713)
  have i2 := I2'.out.gr (HG57.out.trans G713)
  have C13 := hide (fun W' (B : Below w13.heap.size w13 W') => gb (allow13 b p1 p2 W' (LB.below B)))
  have C14 := hide (fun W' (B : Below w13.heap.size w13 W') => gb (deny14 b p1 p2 W' (LB.below B)))
  have C11a := hide (fun W' (B : Below w13.heap.size w13 W') => treeIs11 pz t1 l sv x false W' (Z13.below B) (i1.below B) SS1.out.2.1 SS1.out.2.2.1 SS1.out.2.2.2 (SS1.out.okE HSL.out.1) (HSL.out.below (B013.trans (B.mono B013.size))) (by have := HN1.out; omega) (by have := SS1.out.cntE; have := HN1.out; omega) HX.out (fun r hr => (SS1.out.1 r).2 hr) (fun h => by cases h) (fun r hr => Or.inl ((SS1.out.1 r).1 hr)))
  have C11b := hide (fun W' (B : Below w13.heap.size w13 W') => treeIs11 pz t2 m tv x false W' (Z13.below B) (i2.below B) SS2.out.2.1 SS2.out.2.2.1 SS2.out.2.2.2 (SS2.out.okE HSM.out.1) (HSM.out.below (B013.trans (B.mono B013.size))) (by have := HN2.out; omega) (by have := SS2.out.cntE; have := HN2.out; omega) HX.out (fun r hr => (SS2.out.1 r).2 hr) (fun h => by cases h) (fun r hr => Or.inl ((SS2.out.1 r).1 hr)))
  rw [P1.out, HSF.out] at C11a
  rw [P2.out, HTF.out] at C11b
  simp only [Rg.val, Rg.cells] at C11a C11b
  obtain ⟨k1, _⟩ := blkC q13
  have y0 := k1 0
  have y1 := k1 1
  have y2 := k1 2
  have y3 := k1 3
  have y4 := k1 4
  have y5 := k1 5
  have y6 := k1 6
  have y7 := k1 7
  simp at y0 y1 y2 y3 y4 y5 y6 y7
  have hl13 := ndL q13
  have HB013 := hide B013
  have hm' := mixed
  have hq := cellB
  clear k1 q13 Z13 i1 i2 LB B013 HG57 HLB G713
  go_upto_region 20 with fail
  refine wp_region_quiet_below hm' (by kernel_rfl) ?_
  repeat (quiet_step (first
    | (go_at_call 13; exact callsB (C13.out _ (bw_of _ _ _)))
    | (go_at_call 14; exact callsB (C14.out _ (bw_of _ _ _)))
    | (go_at_call 12; exact callsB (gb (C12.out _ _)))
    | (go_at_call_of 11 a1; exact callsB (C11a.out _ (bw_of _ _ _)))
    | (go_at_call_of 11 a2; exact callsB (C11b.out _ (bw_of _ _ _)))))
  refine wpQuiet_nil ?_
  intro w14 hw14
  have g14 := bw_ofEx hw14
  clear hw14
  go_wp2_with fail
  go_ret
  exact ⟨rfl, HB013.out.trans (g14.mono HB013.out.size)⟩
end Go.Proofs.Qxb6609544aDoor
