import Derived.Test.Qxb6609544aDoorTreeP
import Derived.Test.Qxb6609544aDoorWalk
import Derived.Deep.DeepCutAuto
import Derived.Deep.RegionLaw
namespace Go.Proofs.Qxb6609544aDoor
open Go.RowKit Go.Sort Go.Deep

set_option maxHeartbeats 8000000 in
set_option maxRecDepth 20000 in
theorem treeIs11 (pz : Addr) (t : TT) (l : List Rg) (sv : Value) (x : Rg) (ue : Bool) (w : World) (hz : Zs pz w) (hi : InT pz w t) (hs : (els t).Pairwise (fun x y => x.key < y.key)) (hg : Good t) (hb : Bal t) (hok : ∀ r ∈ els t, r.ok)
    (hsv : IsSl w sv l) (hll : l.length ≤ 1048576) (hc : cnt t ≤ 1048576) (hx : x.ok) (h1 : ∀ r ∈ l, r ∈ els t) (h2 : ue = true → x ∈ els t) (h3 : ∀ r ∈ els t, r ∈ l ∨ (ue = true ∧ r = x)) :
    Calls Tryd.prog 11 #[t.ptr, sv, x.val, .bool ue] w fun e w' => e = .returned (.bool true) ∧ Below w.heap.size w w' := by
  have hlen := els_len t
  obtain ⟨es, hes⟩ : ∃ es, els t = es := ⟨_, rfl⟩
  obtain ⟨n, hn⟩ : ∃ n, es.length = n := ⟨_, rfl⟩
  have hw1 := World.block_lt_of_cell? _ _ hz.2
  simp only at hw1
  -- the two new blocks
  have G0 : Gr w ((w.alloc (.cells #[.int .u8 x.f.a, .int .u8 x.f.b, .int .u8 x.f.c, .int .u8 x.f.d, .int .u8 x.l.a, .int .u8 x.l.b, .int .u8 x.l.c, .int .u8 x.l.d] 37)).alloc (.cells #[.slice none 0 0] 22)) := ((Gr.refl w).alloc _).alloc _
  have hsz : ((w.alloc (.cells #[.int .u8 x.f.a, .int .u8 x.f.b, .int .u8 x.f.c, .int .u8 x.f.d, .int .u8 x.l.a, .int .u8 x.l.b, .int .u8 x.l.c, .int .u8 x.l.d] 37)).alloc (.cells #[.slice none 0 0] 22)).heap.size = w.heap.size + 2 := by simp
  have O0 : OutAt ((w.alloc (.cells #[.int .u8 x.f.a, .int .u8 x.f.b, .int .u8 x.f.c, .int .u8 x.f.d, .int .u8 x.l.a, .int .u8 x.l.b, .int .u8 x.l.c, .int .u8 x.l.d] 37)).alloc (.cells #[.slice none 0 0] 22)) (w.heap.size + 2) (w.heap.size + 1) (.slice none 0 0) [] := ⟨new2 w _ _, World.ownsRow_nil _ _ _ _, by rw [hsz]; omega⟩
  have B0 := new2a w (.cells #[.int .u8 x.f.a, .int .u8 x.f.b, .int .u8 x.f.c, .int .u8 x.f.d, .int .u8 x.l.a, .int .u8 x.l.b, .int .u8 x.l.c, .int .u8 x.l.d] 37) (.cells #[.slice none 0 0] 22)
  have C27 := hide (walk27 pz (w.heap.size + 2) (w.heap.size + 1) (by omega) (by omega) t hg hb (okt_of hg hok) _ _ _ (hz.gr G0) (hi.gr G0) O0 (by simpa using hc))
  obtain ⟨p, hp⟩ := ptrE t
  rw [hp] at C27
  rw [hes] at hs hok h1 h2 h3
  have HOK := hide hok
  have HS := hide hs
  have HSV := hide hsv
  have H1 := hide h1
  have H2 := hide h2
  have H3 := hide h3
  have HN := hide hn
  have HES := hide hes
  have HX := hide hx
  have HG0 := hide G0
  have HB0 := hide B0
  have hcn : cnt t = n := by rw [← hn, ← hes, hlen]
  have hnI : n ≤ 1048576 := by omega
  have HCN := hide hcn
  obtain ⟨sa, scap, hsf⟩ := hsv.form
  obtain ⟨nl, hnl⟩ : ∃ nl, l.length = nl := ⟨_, rfl⟩
  rw [hnl] at hsf hll
  have HNL := hide hnl
  have HSF := hide hsf
  rw [hp, hsf]
  have mk := makeB n hnI
  have hm := mixed
  have hq := cellQ
  clear hz hi hs hg hb hok hsv hc hx h1 h2 h3 hlen hp hes hn hnl hsf G0 B0 O0 hsz hcn
  simp only [Rg.val, Rg.cells]
  go_enter Tryd.func11, Tryd.ntmps11
  go_wp2_with fail
  refine C27.out.mono ?_
  rintro e w1 ⟨v1, rfl, o1, k1⟩
  clear C27
  rw [List.nil_append, HES.out] at o1
  rw [HCN.out]
  have b1 := hide (KR.below HG0.out.1 (Nat.le_succ _) k1)
  have i1 := o1.isSl HOK.out
  have c1 : w1.cell? ⟨w.heap.size + 1, 0, none⟩ = some v1 := (blkC o1.1).1 0
  have hlt1 := ndL o1.1
  have d1 := hide (k1.blk HB0.out (by omega) (by simp [Value.ownBlock]))
  obtain ⟨va, vcap, hvf⟩ := i1.form
  rw [HN.out] at hvf
  subst hvf
  have C28 := hide (fun W (G : Gr w1 W) => asc28 _ es W (i1.gr G) (by rw [HN.out]; exact hnI) (asc_of HOK.out HS.out))
  have I1 := hide i1
  clear i1 o1 k1 HG0 HB0
  obtain ⟨ar, har⟩ : ∃ a, rch t = a := ⟨_, rfl⟩
  rw [har]
  clear har
  simp only [Ad.val]
  go_wp2_with fail
  refine (C28.out _ ((Gr.refl w1).alloc _)).mono ?_
  rintro e w2 ⟨rfl, G2⟩
  clear C28
  have G12 : Gr w1 w2 := ((Gr.refl w1).alloc _).trans G2
  have c2 := G12.cell c1
  have hlt2 := Nat.lt_of_lt_of_le hlt1 G12.size
  have D2 := hide (G12.blk d1.out)
  have I2 := hide (I1.out.gr G12)
  have B2 := hide (b1.out.trans (G12.1.mono b1.out.size))
  have hw2 := Nat.le_trans b1.out.size G12.size
  clear G12 G2 c1 hlt1 d1 I1 b1
  go_wp2_with fail
  go_loopw [14] (fun vi wr => ∃ k : Nat, k ≤ nl ∧ vi = .int .i64 k ∧ Gr w2 wr ∧ ∃ cs : Array Value, wr.heap[w2.heap.size]? = some (.cells cs 4 (0, 0)) ∧ Hid (Marks cs es (fun r => ∃ j, ∃ h : j < l.length, j < k ∧ l[j] = r))) (fun vi _ => nl - (intOf vi).toNat)
  case atStart =>
    refine ⟨0, by omega, rfl, (Gr.refl w2).alloc _, _, new1 w2 _, hide ?_⟩
    have m0 := marks0 es
    rw [HN.out] at m0
    exact ⟨m0.1, m0.2.1, fun i h ⟨j, _, hj, _⟩ => by omega⟩
  case round =>
    obtain ⟨k, hk, rfl, hg, cs, hbk, hmk⟩ := hrel
    by_cases hlt : k < nl
    · have hkl : k < l.length := by rw [HNL.out]; exact hlt
      obtain ⟨_, ⟨_, h0⟩ | ⟨sb, so, scap', hse, hsr⟩⟩ := HSV.out
      · subst h0
        simp at hkl
      rw [HSF.out] at hse
      injection hse with e1 e2 e3
      subst e1
      clear e2 e3
      have hsr' := hsr
      obtain ⟨r, hr⟩ : ∃ r, l[k] = r := ⟨_, rfl⟩
      have hre : r ∈ es := by rw [← hr]; exact H1.out _ (List.getElem_mem hkl)
      obtain ⟨q, hq1, hq2⟩ := List.getElem_of_mem hre
      have gB : Below w.heap.size w wr := B2.out.trans (hg.1.mono B2.out.size)
      have hat := (hsr.below gB).at k hkl
      have hb := (hsr.below gB).lt k hkl
      rw [hr] at hat
      have hrok := HOK.out r hre
      have c3 := hg.cell c2
      have hlt3 := Nat.lt_of_lt_of_le hlt2 hg.size
      have C29 := hide (fun W (G : Gr wr W) => find29 _ es r hrok q hq1 W (I2.out.gr (hg.trans G)) (by rw [HN.out]; exact hnI) (find_of HOK.out HS.out hq1 hq2))
      have hqn : q < n := by rw [← HN.out]; exact hq1
      have HM2 := hide (hmk.out.set hq1 (fun s => ∃ j, ∃ h : j < l.length, j < k + 1 ∧ l[j] = s) (fun i hi hh => by
        obtain ⟨j, hj1, hj2, hj3⟩ := hh
        by_cases hjk : j = k
        · subst hjk
          right
          have e1 : es[i] = es[q] := by rw [← hj3, hr, hq2]
          have hpw := HS.out
          rcases Nat.lt_trichotomy i q with h | h | h
          · have := List.pairwise_iff_getElem.1 hpw i q hi hq1 h
            rw [e1] at this
            omega
          · exact h
          · have := List.pairwise_iff_getElem.1 hpw q i hq1 hi h
            rw [e1] at this
            omega
        · exact Or.inl ⟨j, hj1, by omega, hj3⟩))
      have csz : cs.size = n := by rw [hmk.out.1, HN.out]
      simp only [Rg.val, Rg.cells] at C29
      clear hre hq2 hq1 hr hsr hkl hmk hrok
      obtain ⟨a0, a1, a2, a3, a4, a5, a6, a7⟩ := hat
      go_wp2_with fail
      refine wp_region_quiet_grown hm (by kernel_rfl) ?_
      repeat (quiet_step ((go_at_call 29; exact callsQ (C29.out _ (Gr.of _ _ _)))))
      refine wpQuiet_nil ?_
      intro w3 hw3
      have g3 := Gr.ofEx hw3
      clear hw3 C29
      have hbk3 := g3.blk hbk
      obtain ⟨k1, k2⟩ := blkC hbk3
      have u1 : ∃ u, w3.cell? ⟨w2.heap.size, q, none⟩ = some u := ⟨_, (k1 q).trans (Array.getElem?_eq_getElem (by omega))⟩
      obtain ⟨u1, hu1⟩ := u1
      have hf1 := k2 q
      clear k1 k2 a0 a1 a2 a3 a4 a5 a6 a7
      go_wp2_with fail
      go_roundw
      case rel =>
        refine ⟨k + 1, by omega, by go_num, (hg.trans g3).setCell (Nat.le_refl _) _, _, Lib.heap_setCell_same hbk3 (i := q) _, HM2⟩
      case measure => simp [intOf]; omega
    · have hkn : k = nl := by omega
      subst hkn
      have HM3 := hide (show Marks cs es (fun r => r ∈ l) from ⟨hmk.out.1, hmk.out.2.1, fun i hi hm => by
        obtain ⟨j, hj1, hj2⟩ := List.getElem_of_mem hm
        exact hmk.out.2.2 i hi ⟨j, hj1, by rw [← HNL.out]; exact hj1, hj2⟩⟩)
      clear hmk
      have c3 := hg.cell c2
      have hlt3 := Nat.lt_of_lt_of_le hlt2 hg.size
      have D3 := hide (hg.blk D2.out)
      have B3 := hide (B2.out.trans (hg.1.mono B2.out.size))
      go_upto_if 51 with fail
      go_cut [] (fun wx => ∃ cs' : Array Value, wx.heap[w2.heap.size]? = some (.cells cs' 4 (0, 0)) ∧ Hid (cs'.size = n ∧ ∀ i, i < n → cs'[i]? = some (.bool true)) ∧ Below w.heap.size w wx)
      case first =>
        cases ue with
        | false =>
          go_wp2_with fail
          go_meet
          refine ⟨cs, hbk, hide ⟨by rw [HM3.out.1, HN.out], fun i hi => ?_⟩, B3.out⟩
          have hi' : i < es.length := by rw [HN.out]; exact hi
          refine HM3.out.2.2 i hi' ?_
          rcases H3.out _ (List.getElem_mem hi') with h | h
          · exact h
          · exact absurd h.1 (by decide)
        | true =>
          obtain ⟨q, hq1, hq2⟩ := List.getElem_of_mem (H2.out rfl)
          have C29 := hide (fun W (G : Gr wr W) => find29 _ es x HX.out q hq1 W (I2.out.gr (hg.trans G)) (by rw [HN.out]; exact hnI) (find_of HOK.out HS.out hq1 hq2))
          have hqn : q < n := by rw [← HN.out]; exact hq1
          have csz : cs.size = n := by rw [HM3.out.1, HN.out]
          have HM4 := hide (HM3.out.set hq1 (fun s => s ∈ es) (fun i hi hh => by
            rcases H3.out _ hh with h | h
            · exact Or.inl h
            · right
              have e1 : es[i] = es[q] := by rw [h.2, hq2]
              have hpw := HS.out
              rcases Nat.lt_trichotomy i q with h | h | h
              · have := List.pairwise_iff_getElem.1 hpw i q hi hq1 h
                rw [e1] at this
                omega
              · exact h
              · have := List.pairwise_iff_getElem.1 hpw q i hq1 hi h
                rw [e1] at this
                omega))
          simp only [Rg.val, Rg.cells] at C29
          obtain ⟨k1, _⟩ := blkC D3.out
          have a0 := k1 0
          have a1 := k1 1
          have a2 := k1 2
          have a3 := k1 3
          have a4 := k1 4
          have a5 := k1 5
          have a6 := k1 6
          have a7 := k1 7
          simp at a0 a1 a2 a3 a4 a5 a6 a7
          clear k1 hq1 hq2
          go_wp2_with fail
          refine (C29.out _ (Gr.refl wr)).mono ?_
          rintro e w3 ⟨rfl, g3⟩
          have hbk3 := g3.blk hbk
          obtain ⟨k1, k2⟩ := blkC hbk3
          have u1 : ∃ u, w3.cell? ⟨w2.heap.size, q, none⟩ = some u := ⟨_, (k1 q).trans (Array.getElem?_eq_getElem (by omega))⟩
          obtain ⟨u1, hu1⟩ := u1
          have hf1 := k2 q
          clear k1 k2 a0 a1 a2 a3 a4 a5 a6 a7 C29
          go_wp2_with fail
          go_meet
          refine ⟨_, Lib.heap_setCell_same hbk3 (i := q) _, hide ⟨by rw [HM4.out.1, HN.out], fun i hi => ?_⟩, (B3.out.trans (g3.1.mono B3.out.size)).setCell (by exact hw2) _⟩
          have hi' : i < es.length := by rw [HN.out]; exact hi
          exact HM4.out.2.2 i hi' (List.getElem_mem hi')
      case rest =>
      obtain ⟨cs', hbx, hall, bx⟩ := hcut
      have HBX := hide bx
      obtain ⟨kx, _⟩ := blkC hbx
      have AT := hide (fun i (hi : i < n) => (kx i).trans (hall.out.2 i hi))
      clear kx hbx hall bx hg hbk c2 c3 hlt2 hlt3 mk hq hm
      go_wp2_with fail
      go_loop [17] (fun vi => ∃ k : Nat, k ≤ n ∧ vi = .int .i64 k) (fun vi => n - (intOf vi).toNat)
      case atStart => exact ⟨0, by omega, rfl⟩
      case round =>
        obtain ⟨k, hk, rfl⟩ := hrel
        by_cases hlt : k < n
        · have ck := AT.out k hlt
          go_wp2_with fail
          go_round
          case rel => exact ⟨k + 1, by omega, by go_num⟩
          case measure => simp [intOf]; omega
        · go_wp2_with fail
          go_ret
          exact ⟨rfl, HBX.out⟩
end Go.Proofs.Qxb6609544aDoor
