import Derived.Test.Qxb6609544aDoorLawP
import Derived.Test.Qxb6609544aDoorTreeIs
import Derived.Test.Qxb6609544aDoorRowG
import Derived.Test.Qxb6609544aDoorCh2
import Derived.Deep.DeepCutAuto
namespace Go.Proofs.Qxb6609544aDoor
open Go.RowKit Go.Sort Go.Deep

set_option maxHeartbeats 8000000 in
set_option maxRecDepth 20000 in
theorem law5 : LawC 5 := by
  intro pz sv tv l m st x W hz hsl hsm hl hm hst hx
  obtain ⟨a1, c1, hsf⟩ := hsl.form
  obtain ⟨a2, c2, htf⟩ := hsm.form
  obtain ⟨n1, hn1⟩ : ∃ n, l.length = n := ⟨_, rfl⟩
  obtain ⟨n2, hn2⟩ : ∃ n, m.length = n := ⟨_, rfl⟩
  obtain ⟨ns, hns⟩ : ∃ n, st.size = n := ⟨_, rfl⟩
  rw [hn1] at hsf hl
  rw [hn2] at htf hm
  have HZ := hide hz
  have HSL := hide hsl
  have HSM := hide hsm
  have HX := hide hx
  have HN1 := hide hn1
  have HN2 := hide hn2
  have hstl : ns ≤ maxLen := by rw [← hns]; exact hst
  have C19 := hide (fun W => zzBytes19 a1 a2 n1 n2 c1 c2 st x W hl hm hst)
  have C20 := hide (fun W' (G : Gr W W') => premise sv tv l m st x hx W' (hsl.gr G) (hsm.gr G) (by rw [hn1]; exact hl) (by rw [hn2]; exact hm))
  rw [hsf, htf] at C20
  rw [hsf, htf]
  have HSF := hide hsf
  have HTF := hide htf
  have b0 := new1 W (.cells #[.int .u8 x.f.a, .int .u8 x.f.b, .int .u8 x.f.c, .int .u8 x.f.d, .int .u8 x.l.a, .int .u8 x.l.b, .int .u8 x.l.c, .int .u8 x.l.d] 37)
  have HB0 := hide b0
  unfold maxLen at hl hm hstl
  clear hz hsl hsm hx hn1 hn2 hst hsf htf b0
  simp only [Rg.val, Rg.cells] at *
  go_enter Tryd.func5, Tryd.ntmps5
  go_wp2_with fail
  refine (C19.out _).mono ?_
  rintro e w1 ⟨⟨bb, rfl⟩, G1⟩
  clear C19
  have G01 := ((Gr.refl W).alloc (.cells #[.int .u8 x.f.a, .int .u8 x.f.b, .int .u8 x.f.c, .int .u8 x.f.d, .int .u8 x.l.a, .int .u8 x.l.b, .int .u8 x.l.c, .int .u8 x.l.d] 37)).trans G1
  have B1 := hide (G1.blk HB0.out)
  clear HB0 G1
  cases bb with
  | false =>
    go_wp2_with fail
    go_ret
    exact ⟨rfl, G01.1⟩
  | true =>
  by_cases hc1 : n1 ≤ 131072
  case neg =>
    have hd : decide (131072 < (n1 : Int)) = true := by simp; omega
    go_wp2_with fail
    go_ret
    exact ⟨rfl, G01.1⟩
  by_cases hc2 : n2 ≤ 131072
  case neg =>
    have hd1 : decide (131072 < (n1 : Int)) = false := by simp; omega
    have hd : decide (131072 < (n2 : Int)) = true := by simp; omega
    go_wp2_with fail
    go_ret
    exact ⟨rfl, G01.1⟩
  by_cases hc3 : ns ≤ 1048576
  case neg =>
    have hd1 : decide (131072 < (n1 : Int)) = false := by simp; omega
    have hd2 : decide (131072 < (n2 : Int)) = false := by simp; omega
    have hd : decide (1048576 < (ns : Int)) = true := by simp; omega
    go_wp2_with fail
    go_ret
    exact ⟨rfl, G01.1⟩
  have hd1 : decide (131072 < (n1 : Int)) = false := by simp; omega
  have hd2 : decide (131072 < (n2 : Int)) = false := by simp; omega
  have hd3 : decide (1048576 < (ns : Int)) = false := by simp; omega
  by_cases hc4 : 8 * n1 + 8 * n2 + ns + 8 ≤ 1048576
  case neg =>
    have hd : decide (1048576 < 8 * (n1 : Int) + 8 * (n2 : Int) + (ns : Int) + 8) = true := by simp; omega
    go_wp2_with fail
    go_ret
    exact ⟨rfl, G01.1⟩
  have hd4 : decide (1048576 < 8 * (n1 : Int) + 8 * (n2 : Int) + (ns : Int) + 8) = false := by simp; omega
  obtain ⟨k1, _⟩ := blkC B1.out
  have y0 := k1 0
  have y1 := k1 1
  have y2 := k1 2
  have y3 := k1 3
  have y4 := k1 4
  have y5 := k1 5
  have y6 := k1 6
  have y7 := k1 7
  simp at y0 y1 y2 y3 y4 y5 y6 y7
  clear k1
  go_wp2_with fail
  refine (C20.out _ G01).mono ?_
  rintro e w2 ⟨⟨bb, rfl, hsay⟩, G2⟩
  clear C20 hd1 hd2 hd3 hd4
  have G02 := G01.trans G2
  cases bb with
  | false =>
    clear hsay
    go_wp2_with fail
    go_ret
    exact ⟨rfl, G02.1⟩
  | true =>
  obtain ⟨a, ha, hla⟩ := list_of (hsay rfl)
  have HLA := hide hla
  clear hsay hla
  have C10a := hide (entries10 pz sv l (by have := HN1.out; omega) w2 (HSL.out.gr G02) (HZ.out.gr G02))
  rw [HSF.out, HN1.out] at C10a
  have B2 := hide (G2.blk B1.out)
  clear B1 G01 G2 y0 y1 y2 y3 y4 y5 y6 y7
  go_wp2_with fail
  refine C10a.out.mono ?_
  rintro e w3 ⟨rfl, q3, G3⟩
  clear C10a
  have G03 := G02.trans G3
  have C10b := hide (entries10 pz tv m (by have := HN2.out; omega) w3 (HSM.out.gr G03) (HZ.out.gr G03))
  rw [HTF.out, HN2.out] at C10b
  have Q3 := hide q3
  have B3 := hide (G3.blk B2.out)
  clear q3 B2
  go_wp2_with fail
  refine C10b.out.mono ?_
  rintro e w4 ⟨rfl, q4, G4⟩
  clear C10b
  have G04 := G03.trans G4
  have C9 := hide (newLists pz w2.heap.size n1 l HN1.out (by omega) HSL.out.1 w3.heap.size n2 m HN2.out (by omega) HSM.out.1 w4 (HZ.out.gr G04) (G4.blk Q3.out) q4)
  have B4 := hide (G4.blk B3.out)
  clear q4 Q3 B3 G3
  go_wp2_with fail
  refine C9.out.mono ?_
  rintro e w5 ⟨b, t1, t2, rfl, hb, LS, S1, S2, I1, I2, BB⟩
  clear C9
  have B05 : Below W.heap.size W w5 := G04.1.trans (BB.mono G04.size)
  have HB05 := hide B05
  have q5 := (BB.block _ (ndL B4.out)).trans B4.out
  have Z5 := hide (HZ.out.below B05)
  obtain ⟨p1, hp1⟩ := ptrE t1
  obtain ⟨p2, hp2⟩ := ptrE t2
  rw [hp1, hp2] at LS
  have HLS := hide LS
  have P1 := hide hp1
  have P2 := hide hp2
  have SS1 := hide S1
  have SS2 := hide S2
  have I1' := hide I1
  have I2' := hide I2
  have hbl := ndL LS
  obtain ⟨k1, _⟩ := blkC q5
  have y0 := k1 0
  have y1 := k1 1
  have y2 := k1 2
  have y3 := k1 3
  have y4 := k1 4
  have y5 := k1 5
  have y6 := k1 6
  have y7 := k1 7
  simp at y0 y1 y2 y3 y4 y5 y6 y7
  have B5 := hide q5
  obtain ⟨t0, hp0, S0, I0⟩ : ∃ t0 : TT, t0.ptr = .pointer (if a then p1 else p2) ∧ SetOf t0 (if a then l else m) ∧ InT pz w5 t0 := by
    cases a with
    | true => exact ⟨t1, hp1, S1, I1⟩
    | false => exact ⟨t2, hp2, S2, I2⟩
  have HT0 := hide (And.intro hp0 (And.intro S0 I0))
  have hok0 : ∀ r ∈ (if a then l else m), r.ok := by
    cases a with
    | true => exact HSL.out.1
    | false => exact HSM.out.1
  have hln0 : (if a then l else m).length ≤ 131072 := by
    cases a with
    | true => have := HN1.out; simp; omega
    | false => have := HN2.out; simp; omega
  have HK0 := hide (And.intro hok0 hln0)
  have C21 := hide (entry4 x HX.out pz w5 Z5.out)
  simp only [Ad.val] at C21
  clear k1 B4 LS hp1 hp2 S1 S2 I1 I2 BB B05 G02 G03 G04 G4 q5 hp0 S0 I0 hok0 hln0
  go_wp2_with fail
  refine C21.out.mono ?_
  rintro e w6 ⟨rfl, G6⟩
  clear C21
  have C16 := hide (with16 pz b p1 p2 a x HX.out t0 HT0.out.1 HT0.out.2.1.2.2.1 HT0.out.2.1.2.2.2 HT0.out.2.1.2.1 (HT0.out.2.1.okE HK0.out.1) (by have := HT0.out.2.1.cntE; have := HK0.out.2; omega) w6 (Z5.out.gr G6) (HT0.out.2.2.gr G6) (HLS.out.gr G6))
  rw [← HLA.out] at C16
  simp only [Rg.ent] at *
  generalize hxf : lo x.f = xf at *
  generalize hxl : lo x.l = xl at *
  clear hxf hxl y0 y1 y2 y3 y4 y5 y6 y7
  go_wp2_with fail
  refine C16.out.mono ?_
  rintro e w7 ⟨c, t, rfl, hc, hw, it, LC, G7⟩
  clear C16
  have G57 := G6.trans G7
  have LB := HLS.out.gr G57
  have hcb : c ≠ b := by have := G6.size; omega
  obtain ⟨pt, hpt⟩ := ptrE t
  obtain ⟨p', q', E0, E1⟩ : ∃ p' q' : Option Addr, LsAt w7 c (.pointer p') (.pointer q') ∧ (if a then p' = pt ∧ q' = p2 else p' = p1 ∧ q' = pt) := by
    rw [hpt] at LC
    cases a with
    | true => exact ⟨pt, p2, LC, rfl, rfl⟩
    | false => exact ⟨p1, pt, LC, rfl, rfl⟩
  have eqc := neLists E0 LB hcb
  have HE0 := hide E0
  have HE1 := hide E1
  have HPT := hide hpt
  have HW := hide hw
  have HIT := hide it
  have C12 := hide (fun W p => root12 p W)
  have HLB := hide LB
  have B07 : Below W.heap.size W w7 := HB05.out.trans (G57.1.mono HB05.out.size)
  have q7 := G57.blk B5.out
  have Z7 := hide (Z5.out.gr G57)
  have i1 := I1'.out.gr G57
  have i2 := I2'.out.gr G57
  have C13 := hide (fun W' (B : Below w7.heap.size w7 W') => gb (allow13 b p1 p2 W' (LB.below B)))
  have C14 := hide (fun W' (B : Below w7.heap.size w7 W') => gb (deny14 b p1 p2 W' (LB.below B)))
  have C11a := hide (fun W' (B : Below w7.heap.size w7 W') => treeIs11 pz t1 l sv x false W' (Z7.out.below B) (i1.below B) SS1.out.2.1 SS1.out.2.2.1 SS1.out.2.2.2 (SS1.out.okE HSL.out.1) (HSL.out.below (B07.trans (B.mono B07.size))) (by have := HN1.out; omega) (by have := SS1.out.cntE; have := HN1.out; omega) HX.out (fun r hr => (SS1.out.1 r).2 hr) (fun h => by cases h) (fun r hr => Or.inl ((SS1.out.1 r).1 hr)))
  have C11b := hide (fun W' (B : Below w7.heap.size w7 W') => treeIs11 pz t2 m tv x false W' (Z7.out.below B) (i2.below B) SS2.out.2.1 SS2.out.2.2.1 SS2.out.2.2.2 (SS2.out.okE HSM.out.1) (HSM.out.below (B07.trans (B.mono B07.size))) (by have := HN2.out; omega) (by have := SS2.out.cntE; have := HN2.out; omega) HX.out (fun r hr => (SS2.out.1 r).2 hr) (fun h => by cases h) (fun r hr => Or.inl ((SS2.out.1 r).1 hr)))
  rw [P1.out, HSF.out] at C11a
  rw [P2.out, HTF.out] at C11b
  simp only [Rg.val, Rg.cells] at C11a C11b
  obtain ⟨k1, _⟩ := blkC q7
  have y0 := k1 0
  have y1 := k1 1
  have y2 := k1 2
  have y3 := k1 3
  have y4 := k1 4
  have y5 := k1 5
  have y6 := k1 6
  have y7 := k1 7
  simp at y0 y1 y2 y3 y4 y5 y6 y7
  have hl7 := ndL q7
  have HB07 := hide B07
  have B7 := hide q7
  have hm' := mixed
  have hq := cellB
  clear k1 q7 i1 i2 LB B07 LC E0 E1 hpt hw it G6 G7 G57 B5 Z5 I1' I2' SS1 SS2 HLS
  go_upto_region 16 with fail
  clear eqc
  refine wp_region_quiet_below hm' (by kernel_rfl) ?_
  repeat (quiet_step (first
    | (go_at_call 13; exact callsB (C13.out _ (bw_of _ _ _)))
    | (go_at_call 14; exact callsB (C14.out _ (bw_of _ _ _)))
    | (go_at_call 12; exact callsB (gb (C12.out _ _)))
    | (go_at_call_of 11 a1; exact callsB (C11a.out _ (bw_of _ _ _)))
    | (go_at_call_of 11 a2; exact callsB (C11b.out _ (bw_of _ _ _)))))
  refine wpQuiet_nil ?_
  intro w8 hw8
  have g8 := bw_ofEx hw8
  clear hw8 C13 C14 C11a C11b y0 y1 y2 y3 y4 y5 y6 y7 hl7
  have B08 : Below W.heap.size W w8 := HB07.out.trans (g8.mono HB07.out.size)
  have HB08 := hide B08
  have LC8 := HE0.out.below g8
  have LB8 := HLB.out.below g8
  have q8 := (g8.block _ (ndL B7.out)).trans B7.out
  have Z8 := Z7.out.below g8
  have it8 := HIT.out.below g8
  obtain ⟨k1, _⟩ := blkC q8
  have y0 := k1 0
  have y1 := k1 1
  have y2 := k1 2
  have y3 := k1 3
  have y4 := k1 4
  have y5 := k1 5
  have y6 := k1 6
  have y7 := k1 7
  simp at y0 y1 y2 y3 y4 y5 y6 y7
  have hl8 := ndL q8
  clear k1 B7 HB07 Z7 g8
  cases a with
  | true =>
    obtain ⟨e1, e2⟩ : p' = pt ∧ q' = p2 := by simpa using HE1.out
    replace e1 := e1.symm
    replace e2 := e2.symm
    subst e1 e2
    have S0 : SetOf t0 l := by simpa using HT0.out.2.1
    have HS0 := hide S0
    have F1 := hide (fun W' (B : Below w8.heap.size w8 W') => gb (allow13 c pt p2 W' (LC8.below B)))
    have F2 := hide (fun W' (B : Below w8.heap.size w8 W') => gb (deny14 c pt p2 W' (LC8.below B)))
    have F3 := hide (fun W' (B : Below w8.heap.size w8 W') => gb (deny14 b p1 p2 W' (LB8.below B)))
    have F4 := hide (fun W' (B : Below w8.heap.size w8 W') => treeIs11 pz t l sv x true W' (Z8.below B) (it8.below B) HW.out.2.1 HW.out.2.2.1 HW.out.2.2.2.1
      (fun r hr => by
        rcases (HW.out.1 r).1 hr with h | h
        · exact HSL.out.1 r ((HS0.out.1 r).1 h)
        · rw [h]; exact HX.out)
      (HSL.out.below (B08.trans (B.mono B08.size))) (by have := HN1.out; omega) (by have := HW.out.2.2.2.2; have := HS0.out.cntE; have := HN1.out; omega) HX.out
      (fun r hr => (HW.out.1 r).2 (Or.inl ((HS0.out.1 r).2 hr))) (fun _ => (HW.out.1 x).2 (Or.inr rfl))
      (fun r hr => by
        rcases (HW.out.1 r).1 hr with h | h
        · exact Or.inl ((HS0.out.1 r).1 h)
        · exact Or.inr ⟨rfl, h⟩))
    rw [HPT.out, HSF.out] at F4
    simp only [Rg.val, Rg.cells] at F4
    have eqn := eqNode p2
    clear S0 LC8 LB8 Z8 it8 q8 B08 HE1 HT0 HE0 HLB HW HIT HS0 HK0
    go_upto_region 19 with fail
    refine wp_region_quiet_below hm' (by kernel_rfl) ?_
    repeat (quiet_step (first
      | (go_at_call 13; go_at_call_of 13 c; exact callsB (F1.out _ (bw_of _ _ _)))
      | (go_at_call_of 14 c; exact callsB (F2.out _ (bw_of _ _ _)))
      | (go_at_call_of 14 b; exact callsB (F3.out _ (bw_of _ _ _)))
      | (go_at_call 12; exact callsB (gb (C12.out _ _)))
      | (go_at_call_of 11 a1; exact callsB (F4.out _ (bw_of _ _ _)))))
    refine wpQuiet_nil ?_
    intro w9 hw9
    have g9 := bw_ofEx hw9
    clear hw9
    go_wp2_with fail
    go_ret
    exact ⟨rfl, HB08.out.trans (g9.mono HB08.out.size)⟩
  | false =>
    obtain ⟨e1, e2⟩ : p' = p1 ∧ q' = pt := by simpa using HE1.out
    replace e1 := e1.symm
    replace e2 := e2.symm
    subst e1 e2
    have S0 : SetOf t0 m := by simpa using HT0.out.2.1
    have HS0 := hide S0
    have F1 := hide (fun W' (B : Below w8.heap.size w8 W') => gb (deny14 c p1 pt W' (LC8.below B)))
    have F2 := hide (fun W' (B : Below w8.heap.size w8 W') => gb (allow13 c p1 pt W' (LC8.below B)))
    have F3 := hide (fun W' (B : Below w8.heap.size w8 W') => gb (allow13 b p1 p2 W' (LB8.below B)))
    have F4 := hide (fun W' (B : Below w8.heap.size w8 W') => treeIs11 pz t m tv x true W' (Z8.below B) (it8.below B) HW.out.2.1 HW.out.2.2.1 HW.out.2.2.2.1
      (fun r hr => by
        rcases (HW.out.1 r).1 hr with h | h
        · exact HSM.out.1 r ((HS0.out.1 r).1 h)
        · rw [h]; exact HX.out)
      (HSM.out.below (B08.trans (B.mono B08.size))) (by have := HN2.out; omega) (by have := HW.out.2.2.2.2; have := HS0.out.cntE; have := HN2.out; omega) HX.out
      (fun r hr => (HW.out.1 r).2 (Or.inl ((HS0.out.1 r).2 hr))) (fun _ => (HW.out.1 x).2 (Or.inr rfl))
      (fun r hr => by
        rcases (HW.out.1 r).1 hr with h | h
        · exact Or.inl ((HS0.out.1 r).1 h)
        · exact Or.inr ⟨rfl, h⟩))
    rw [HPT.out, HTF.out] at F4
    simp only [Rg.val, Rg.cells] at F4
    have eqn := eqNode p1
    clear S0 LC8 LB8 Z8 it8 q8 B08 HE1 HT0 HE0 HLB HW HIT HS0 HK0
    go_upto_region 20 with fail
    refine wp_region_quiet_below hm' (by kernel_rfl) ?_
    repeat (quiet_step (first
      | (go_at_call 14; go_at_call_of 14 c; exact callsB (F1.out _ (bw_of _ _ _)))
      | (go_at_call_of 13 c; exact callsB (F2.out _ (bw_of _ _ _)))
      | (go_at_call_of 13 b; exact callsB (F3.out _ (bw_of _ _ _)))
      | (go_at_call 12; exact callsB (gb (C12.out _ _)))
      | (go_at_call_of 11 a2; exact callsB (F4.out _ (bw_of _ _ _)))))
    refine wpQuiet_nil ?_
    intro w9 hw9
    have g9 := bw_ofEx hw9
    clear hw9
    go_wp2_with fail
    go_ret
    exact ⟨rfl, HB08.out.trans (g9.mono HB08.out.size)⟩
end Go.Proofs.Qxb6609544aDoor
