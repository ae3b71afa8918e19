import Derived.Test.Qxb6609544aDoorCh0
namespace Go.Proofs.Qxb6609544aDoor
open Go.RowKit Go.Sort Go.Deep

section
variable {pz : Addr} {x y : Rg} {b s : Nat} {a : Ad} {l r : TT} {w w' : World}

/-- Nothing put in: the node as it is. -/
theorem chd_same (hi : InT pz w' (.node b 0 (y, s, a) l r)) (hg : Good (.node b 0 (y, s, a) l r)) (hb : Bal (.node b 0 (y, s, a) l r)) (G : Gr w w') (hx : x ∈ els (.node b 0 (y, s, a) l r)) : Chd pz x (.node b 0 (y, s, a) l r) w (.returned (.pointer (some ⟨b, 0, none⟩))) w' :=
  ⟨_, rfl, hi, hg, hb, G, Or.inl ⟨rfl, hx⟩⟩
theorem chd_left {l' : TT} {w0 : World} {e : Ending} (h : Bald pz w0 w' y l' r e) (hp : Put x (els l) (els l')) (hy : x.key < y.key) (hs : (els (.node b 0 (y, s, a) l r)).Pairwise (fun x y => x.key < y.key)) (G : Gr w w') (hw : w.heap.size ≤ w0.heap.size) : Chd pz x (.node b 0 (y, s, a) l r) w e w' := by
  obtain ⟨t, rfl, e1, g1, b1, i1, ⟨bb, n, c, d, ht, hbb⟩, _⟩ := h
  refine ⟨t, rfl, i1, g1, b1, G, Or.inr ⟨⟨bb, n, c, d, ht, by omega⟩, ?_⟩⟩
  rw [e1]
  have hr : ∀ z ∈ els r, y.key < z.key := by
    have := (List.pairwise_append.1 (show (els l ++ y :: els r).Pairwise (fun x y => x.key < y.key) from hs)).2.1
    exact (List.pairwise_cons.1 this).1
  exact hp.left hy hr
theorem chd_right {r' : TT} {w0 : World} {e : Ending} (h : Bald pz w0 w' y l r' e) (hp : Put x (els r) (els r')) (hy : y.key < x.key) (hs : (els (.node b 0 (y, s, a) l r)).Pairwise (fun x y => x.key < y.key)) (G : Gr w w') (hw : w.heap.size ≤ w0.heap.size) : Chd pz x (.node b 0 (y, s, a) l r) w e w' := by
  obtain ⟨t, rfl, e1, g1, b1, i1, ⟨bb, n, c, d, ht, hbb⟩, _⟩ := h
  refine ⟨t, rfl, i1, g1, b1, G, Or.inr ⟨⟨bb, n, c, d, ht, by omega⟩, ?_⟩⟩
  rw [e1]
  have hl : ∀ z ∈ els l, z.key < y.key := fun z hz => (List.pairwise_append.1 (show (els l ++ y :: els r).Pairwise (fun x y => x.key < y.key) from hs)).2.2 z hz y (by simp)
  exact hp.right hy hl
end

set_option maxHeartbeats 8000000 in
set_option maxRecDepth 20000 in
theorem change_node (pz : Addr) (x y : Rg) (b s : Nat) (a : Ad) (l r : TT) (hx : x.ok) (hy : y.ok) (hg : Good (.node b 0 (y, s, a) l r)) (hb : Bal (.node b 0 (y, s, a) l r)) (hs : (els (.node b 0 (y, s, a) l r)).Pairwise (fun x y => x.key < y.key)) (hc : cnt (.node b 0 (y, s, a) l r) ≤ 400000) (IL : ChangeC pz x l) (IR : ChangeC pz x r) : ChangeC pz x (.node b 0 (y, s, a) l r) := by
  intro w hz hi
  obtain ⟨-, hbk, il, ir⟩ := id hi
  obtain ⟨-, -, gl, gr⟩ := id hg
  obtain ⟨nb1, nb2, bl, br⟩ := id hb
  have hcl : cnt l ≤ 400000 := by simp only [cnt] at hc; omega
  have hcr : cnt r ≤ 400000 := by simp only [cnt] at hc; omega
  have C32 := hide (fun W (G : Gr w W) => entCmp x y hx hy pz W (hz.gr G))
  have CL := hide (fun W (G : Gr w W) => IL W (hz.gr G) (il.gr G))
  have CR := hide (fun W (G : Gr w W) => IR W (hz.gr G) (ir.gr G))
  have C56 := hide (fun W => clos56s pz x ⟨b, 0, none⟩ W)
  have CB1 := hide (fun W (l' : TT) (G : Gr w W) (hi' : InT pz W l') (g' : Good l') (b' : Bal l') (hp : Put x (els l) (els l')) => balance72 pz y l' r W (hz.gr G) hi' (ir.gr G) g' gr b' br
    (by have h1 := hp.len; rw [els_len, els_len] at h1; unfold NB; omega) (by have h1 := hp.len; rw [els_len, els_len] at h1; omega) (by omega))
  have CB2 := hide (fun W (r' : TT) (G : Gr w W) (hi' : InT pz W r') (g' : Good r') (b' : Bal r') (hp : Put x (els r) (els r')) => balance72 pz y l r' W (hz.gr G) (il.gr G) hi' gl g' bl b'
    (by have h1 := hp.len; rw [els_len, els_len] at h1; unfold NB; omega) (by omega) (by have h1 := hp.len; rw [els_len, els_len] at h1; omega))
  have FS := hide (fun (w' : World) (G : Gr w w') (hm : x ∈ els (.node b 0 (y, s, a) l r)) => chd_same (x := x) (hi.gr G) hg hb G hm)
  have FL := hide (fun (l' : TT) (w0 w' : World) (e : Ending) (hk : x.key < y.key) (h : Bald pz w0 w' y l' r e) (hp : Put x (els l) (els l')) (G : Gr w w') (hw : w.heap.size ≤ w0.heap.size) => chd_left (a := a) (b := b) (s := s) h hp hk hs G hw)
  have FR := hide (fun (r' : TT) (w0 w' : World) (e : Ending) (hk : y.key < x.key) (h : Bald pz w0 w' y l r' e) (hp : Put x (els r) (els r')) (G : Gr w w') (hw : w.heap.size ≤ w0.heap.size) => chd_right (a := a) (b := b) (s := s) h hp hk hs G hw)
  have ML := hide (fun (h : x ∈ els l) => (show x ∈ els (.node b 0 (y, s, a) l r) by simp [els, h]))
  have MR := hide (fun (h : x ∈ els r) => (show x ∈ els (.node b 0 (y, s, a) l r) by simp [els, h]))
  have ME := hide (fun (h : x.key = y.key) => (show x ∈ els (.node b 0 (y, s, a) l r) by rw [key_inj hx hy h]; simp [els]))
  have NEL := hide (fun (W w' : World) (t' : TT) (GW : Gr w W) (G : Gr w w') (hf : ∃ b n a c, t' = .node b 0 n a c ∧ W.heap.size ≤ b) (hi' : InT pz w' t') => neTree (il.gr GW) (il.gr G) hf hi')
  have NER := hide (fun (W w' : World) (t' : TT) (GW : Gr w W) (G : Gr w w') (hf : ∃ b n a c, t' = .node b 0 n a c ∧ W.heap.size ≤ b) (hi' : InT pz w' t') => neTree (ir.gr GW) (ir.gr G) hf hi')
  obtain ⟨p1, hp1⟩ := ptrE l
  obtain ⟨p2, hp2⟩ := ptrE r
  have e0 : (BT.node b 0 (y, s, a) l r : TT).ptr = .pointer (some ⟨b, 0, none⟩) := rfl
  rw [e0]
  simp only [hp1, hp2, Rg.ent] at C32 CL CR C56 CB1 CB2 NEL NER hbk ⊢
  have P1 := hide hp1
  have P2 := hide hp2
  obtain ⟨c, hcc⟩ : ∃ c, cmpN x.key y.key = c := ⟨_, rfl⟩
  rw [hcc] at C32
  have HC := hide hcc
  have HB := hide hbk
  have hm := mixed
  have hq := cellQ
  generalize lo x.f = xf at *
  generalize lo x.l = xl at *
  generalize lo y.f = yf at *
  generalize lo y.l = yl at *
  clear hz hi hg hb hs hc IL IR hbk il ir gl gr bl br nb1 nb2 hcl hcr hp1 hp2 e0 hcc hx hy
  have G0 : Gr w (w.alloc (.cells #[.int .u64 0, .int .u64 xf, .pointer (some pz), .int .u64 0, .int .u64 xl, .pointer (some pz)] 49)) := (Gr.refl w).alloc _
  have HB1 := hide (G0.blk HB.out)
  have BX := new1 w (.cells #[.int .u64 0, .int .u64 xf, .pointer (some pz), .int .u64 0, .int .u64 xl, .pointer (some pz)] 49)
  obtain ⟨x0, x1, x2, x3, x4, x5⟩ := six49 BX
  obtain ⟨r0, r1, r2, r3, r4, r5, r6, r7⟩ := nd8 HB1.out
  obtain ⟨s0, s1, s2, s3, s4, s5, -, -⟩ := nd8 HB.out
  have hlw := ndL HB.out
  have hlb := ndL HB1.out
  have hlx := ndL BX
  go_enter Tryd.func55, Tryd.ntmps55
  go_upto_region 3 with fail
  refine wp_region_quiet_grown hm (by kernel_rfl) ?_
  repeat (quiet_step ((go_at_call 32; exact callsQ (C32.out _ (G0.trans (Gr.of _ _ _))))))
  refine wpQuiet_nil ?_
  intro w2 hw2
  have G2 := Gr.ofEx hw2
  clear hw2 C32 x0 x1 x2 x3 x4 x5 r0 r1 r2 r3 r4 r5 r6 r7 s0 s1 s2 s3 s4 s5 hlw hq hm hlb hlx
  have G02 := G0.trans G2
  have HB2 := hide (G2.blk HB1.out)
  have HB0 := hide HB.out
  have BX2 := G2.blk BX
  obtain ⟨x0, x1, x2, x3, x4, x5⟩ := six49 BX2
  obtain ⟨q0, q1, q2, q3, q4, q5, q6, q7⟩ := nd8 HB2.out
  have K0 := hide (p := (fun w' => w'.cell? ⟨w.heap.size, 0, none⟩ = some (.int .u64 0) ∧ w'.cell? ⟨w.heap.size, 1, none⟩ = some (.int .u64 xf) ∧ w'.cell? ⟨w.heap.size, 2, none⟩ = some (.pointer (some pz)) ∧ w'.cell? ⟨w.heap.size, 3, none⟩ = some (.int .u64 0) ∧ w'.cell? ⟨w.heap.size, 4, none⟩ = some (.int .u64 xl) ∧ w'.cell? ⟨w.heap.size, 5, none⟩ = some (.pointer (some pz)) ∧ w'.cell? ⟨b, 6, none⟩ = some (.pointer p1) ∧ w'.cell? ⟨b, 7, none⟩ = some (.pointer p2)) w2) ⟨x0, x1, x2, x3, x4, x5, q6, q7⟩
  have hlx := ndL BX2
  have hlb := ndL HB2.out
  clear q0 q1 q2 q3 q4 q5 HB HB1 BX BX2 G0 G2
  have hcs : c < 0 ∨ c = 0 ∨ 0 < c := by omega
  rcases hcs with h | h | h
  · have KEY := hide (show x.key < y.key by
      have e := HC.out
      unfold cmpN at e
      by_cases hk : x.key < y.key
      · exact hk
      · rw [if_neg hk] at e
        split at e <;> omega)
    go_upto_region 5 with fail
    go_region_held3 (fun w' => w'.cell? ⟨w.heap.size, 0, none⟩ = some (.int .u64 0) ∧ w'.cell? ⟨w.heap.size, 1, none⟩ = some (.int .u64 xf) ∧ w'.cell? ⟨w.heap.size, 2, none⟩ = some (.pointer (some pz)) ∧ w'.cell? ⟨w.heap.size, 3, none⟩ = some (.int .u64 0) ∧ w'.cell? ⟨w.heap.size, 4, none⟩ = some (.int .u64 xl) ∧ w'.cell? ⟨w.heap.size, 5, none⟩ = some (.pointer (some pz)) ∧ w'.cell? ⟨b, 6, none⟩ = some (.pointer p1) ∧ w'.cell? ⟨b, 7, none⟩ = some (.pointer p2)) (first | exact K0.out | exact Gr.keep8 G3 K0.out)
      (first
      | (go_at_call 55; refine (CL.out _ G02.drew).mono ?_; rintro e w3 ⟨l', rfl, i3, g3, b3, G3, hor⟩))
    have G03 := G02.drew.trans G3
    have HB3 := hide (G03.blk HB0.out)
    rcases hor with ⟨rfl, hmem⟩ | ⟨hf, hp⟩
    · rw [P1.out]
      have eqn := eqNode p1
      clear CB1 CB2 NEL NER FL FR K0
      go_wp2_with fail
      go_ret
      exact FS.out w3 G03 (ML.out hmem)
    · have ne := NEL.out _ w3 _ G02.drew G03 hf i3
      have I3 := hide i3
      have HP := hide hp
      have HGD := hide (And.intro g3 b3)
      obtain ⟨pl, hpl⟩ := ptrE l'
      rw [hpl] at ne ⊢
      have CC := hide (CB1.out w3.drew _ G03.drew (I3.out.gr (Gr.refl w3).drew) HGD.out.1 HGD.out.2 HP.out)
      rw [hpl] at CC
      obtain ⟨q0, q1, q2, q3, q4, q5, q6, q7⟩ := nd8 HB3.out
      have hlb3 := ndL HB3.out
      have K3 := hide (p := (fun w' => w'.cell? ⟨b, 0, none⟩ = some (.int .u64 0) ∧ w'.cell? ⟨b, 1, none⟩ = some (.int .u64 yf) ∧ w'.cell? ⟨b, 2, none⟩ = some (.pointer (some pz)) ∧ w'.cell? ⟨b, 3, none⟩ = some (.int .u64 0) ∧ w'.cell? ⟨b, 4, none⟩ = some (.int .u64 yl) ∧ w'.cell? ⟨b, 5, none⟩ = some (.pointer (some pz)) ∧ w'.cell? ⟨b, 6, none⟩ = some (.pointer p1) ∧ w'.cell? ⟨b, 7, none⟩ = some (.pointer p2)) w3) ⟨q0, q1, q2, q3, q4, q5, q6, q7⟩
      have HF := hide (fun (w4 : World) (t : TT) h (G : Gr w3.drew w4) => FL.out l' w3.drew w4 (.returned t.ptr) KEY.out ⟨t, rfl, h⟩ HP.out (G03.drew.trans G) (G03.drew.size))
      clear i3 hp g3 b3 hf hpl CB1 CB2 NEL NER FL FR K0 C56 CL CR FS ML MR ME
      go_upto_region 8 with fail
      go_region_held3 (fun w' => w'.cell? ⟨b, 0, none⟩ = some (.int .u64 0) ∧ w'.cell? ⟨b, 1, none⟩ = some (.int .u64 yf) ∧ w'.cell? ⟨b, 2, none⟩ = some (.pointer (some pz)) ∧ w'.cell? ⟨b, 3, none⟩ = some (.int .u64 0) ∧ w'.cell? ⟨b, 4, none⟩ = some (.int .u64 yl) ∧ w'.cell? ⟨b, 5, none⟩ = some (.pointer (some pz)) ∧ w'.cell? ⟨b, 6, none⟩ = some (.pointer p1) ∧ w'.cell? ⟨b, 7, none⟩ = some (.pointer p2)) (first | exact K3.out | exact Gr.keep8 G4 K3.out)
        (first
        | (go_at_call 72; refine CC.out.mono ?_; rintro e w4 ⟨t, rfl, ht⟩; have G4 := ht.2.2.2.2.2; have F4 := hide (HF.out w4 t ht G4)))
      obtain ⟨pt, hpt⟩ := ptrE t
      rw [hpt] at F4 ⊢
      clear hpt ht K3 CC HF
      go_wp2_with fail
      go_ret
      exact F4.out
  · subst h
    have KEY := hide (show x.key = y.key by
      have e := HC.out
      unfold cmpN at e
      by_cases hk : x.key < y.key
      · rw [if_pos hk] at e
        omega
      · rw [if_neg hk] at e
        by_cases hk2 : y.key < x.key
        · rw [if_pos hk2] at e
          omega
        · omega)
    clear K0 CB1 CB2 NEL NER FL FR CL CR
    go_wp2_with fail
    refine (C56.out _).mono ?_
    rintro e w3 ⟨rfl, G3⟩
    go_wp2_with fail
    go_ret
    exact FS.out w3 (G02.trans G3) (ME.out KEY.out)
  · have KEY := hide (show y.key < x.key by
      have e := HC.out
      unfold cmpN at e
      by_cases hk : x.key < y.key
      · rw [if_pos hk] at e
        omega
      · rw [if_neg hk] at e
        by_cases hk2 : y.key < x.key
        · exact hk2
        · rw [if_neg hk2] at e
          omega)
    have hd : decide (c < 0) = false := by simp; omega
    go_upto_region 10 with fail
    go_region_held3 (fun w' => w'.cell? ⟨w.heap.size, 0, none⟩ = some (.int .u64 0) ∧ w'.cell? ⟨w.heap.size, 1, none⟩ = some (.int .u64 xf) ∧ w'.cell? ⟨w.heap.size, 2, none⟩ = some (.pointer (some pz)) ∧ w'.cell? ⟨w.heap.size, 3, none⟩ = some (.int .u64 0) ∧ w'.cell? ⟨w.heap.size, 4, none⟩ = some (.int .u64 xl) ∧ w'.cell? ⟨w.heap.size, 5, none⟩ = some (.pointer (some pz)) ∧ w'.cell? ⟨b, 6, none⟩ = some (.pointer p1) ∧ w'.cell? ⟨b, 7, none⟩ = some (.pointer p2)) (first | exact K0.out | exact Gr.keep8 G3 K0.out)
      (first
      | (go_at_call 55; refine (CR.out _ G02.drew).mono ?_; rintro e w3 ⟨r', rfl, i3, g3, b3, G3, hor⟩))
    have G03 := G02.drew.trans G3
    have HB3 := hide (G03.blk HB0.out)
    rcases hor with ⟨rfl, hmem⟩ | ⟨hf, hp⟩
    · rw [P2.out]
      have eqn := eqNode p2
      clear CB1 CB2 NEL NER FL FR K0
      go_wp2_with fail
      go_ret
      exact FS.out w3 G03 (MR.out hmem)
    · have ne := NER.out _ w3 _ G02.drew G03 hf i3
      have I3 := hide i3
      have HP := hide hp
      have HGD := hide (And.intro g3 b3)
      obtain ⟨pl, hpl⟩ := ptrE r'
      rw [hpl] at ne ⊢
      have CC := hide (CB2.out w3.drew _ G03.drew (I3.out.gr (Gr.refl w3).drew) HGD.out.1 HGD.out.2 HP.out)
      rw [hpl] at CC
      obtain ⟨q0, q1, q2, q3, q4, q5, q6, q7⟩ := nd8 HB3.out
      have hlb3 := ndL HB3.out
      have K3 := hide (p := (fun w' => w'.cell? ⟨b, 0, none⟩ = some (.int .u64 0) ∧ w'.cell? ⟨b, 1, none⟩ = some (.int .u64 yf) ∧ w'.cell? ⟨b, 2, none⟩ = some (.pointer (some pz)) ∧ w'.cell? ⟨b, 3, none⟩ = some (.int .u64 0) ∧ w'.cell? ⟨b, 4, none⟩ = some (.int .u64 yl) ∧ w'.cell? ⟨b, 5, none⟩ = some (.pointer (some pz)) ∧ w'.cell? ⟨b, 6, none⟩ = some (.pointer p1) ∧ w'.cell? ⟨b, 7, none⟩ = some (.pointer p2)) w3) ⟨q0, q1, q2, q3, q4, q5, q6, q7⟩
      have HF := hide (fun (w4 : World) (t : TT) h (G : Gr w3.drew w4) => FR.out r' w3.drew w4 (.returned t.ptr) KEY.out ⟨t, rfl, h⟩ HP.out (G03.drew.trans G) (G03.drew.size))
      clear i3 hp g3 b3 hf hpl CB1 CB2 NEL NER FL FR K0 C56 CL CR FS ML MR ME
      go_upto_region 13 with fail
      go_region_held3 (fun w' => w'.cell? ⟨b, 0, none⟩ = some (.int .u64 0) ∧ w'.cell? ⟨b, 1, none⟩ = some (.int .u64 yf) ∧ w'.cell? ⟨b, 2, none⟩ = some (.pointer (some pz)) ∧ w'.cell? ⟨b, 3, none⟩ = some (.int .u64 0) ∧ w'.cell? ⟨b, 4, none⟩ = some (.int .u64 yl) ∧ w'.cell? ⟨b, 5, none⟩ = some (.pointer (some pz)) ∧ w'.cell? ⟨b, 6, none⟩ = some (.pointer p1) ∧ w'.cell? ⟨b, 7, none⟩ = some (.pointer p2)) (first | exact K3.out | exact Gr.keep8 G4 K3.out)
        (first
        | (go_at_call 72; refine CC.out.mono ?_; rintro e w4 ⟨t, rfl, ht⟩; have G4 := ht.2.2.2.2.2; have F4 := hide (HF.out w4 t ht G4)))
      obtain ⟨pt, hpt⟩ := ptrE t
      rw [hpt] at F4 ⊢
      clear hpt ht K3 CC HF
      go_wp2_with fail
      go_ret
      exact F4.out
end Go.Proofs.Qxb6609544aDoor
