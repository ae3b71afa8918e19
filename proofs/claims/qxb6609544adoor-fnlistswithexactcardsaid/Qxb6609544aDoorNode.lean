import Derived.Test.Qxb6609544aDoorAs4
namespace Go.Proofs.Qxb6609544aDoor
open Go.RowKit Go.Sort Go.Deep

set_option maxHeartbeats 1000000 in
theorem last43 (x : Rg) (hx : x.ok) (pz : Addr) (w : World) (hz : Zs pz w) :
    Calls Tryd.prog 43 #[.agg (x.ent pz).toArray] w fun e w' => e = .returned x.l.val ∧ Gr w w' := by
  have C := hide (fun W p (hp : p = lo x.l) (hz : Zs pz W) => as4N p x.l hp hx.2 pz W hz)
  have HZ := hide hz
  simp only [Rg.ent, Ad.val]
  obtain ⟨p, hp⟩ : ∃ p, p = lo x.l := ⟨_, rfl⟩
  rw [← hp]
  generalize lo x.f = q
  have HP := hide hp
  clear hp hz
  go_enter Tryd.func43, Tryd.ntmps43
  go_wp2_with fail
  refine (C.out _ p HP.out (HZ.out.gr (((Gr.refl w).alloc _).alloc _))).mono ?_
  rintro e w1 ⟨rfl, G1⟩
  obtain ⟨k1, k2⟩ := blkC (G1.blk (new2 w _ _))
  have d0 : w1.cell? ⟨w.heap.size + 1, 0, none⟩ = some (.int .u8 0) := k1 0
  have d1 : w1.cell? ⟨w.heap.size + 1, 1, none⟩ = some (.int .u8 0) := k1 1
  have d2 : w1.cell? ⟨w.heap.size + 1, 2, none⟩ = some (.int .u8 0) := k1 2
  have d3 : w1.cell? ⟨w.heap.size + 1, 3, none⟩ = some (.int .u8 0) := k1 3
  have f0 := k2 0
  have f1 := k2 1
  have f2 := k2 2
  have f3 := k2 3
  clear k1 k2
  go_wp2
  have G := ((Gr.refl w).alloc _).alloc _ |>.trans G1
  exact bodyPost_ret (v := .agg #[.int .u8 (x.l.a : Nat), .int .u8 (x.l.b : Nat), .int .u8 (x.l.c : Nat), .int .u8 (x.l.d : Nat)]) (by simp [results, Tryd.results43, go_sem, d0, d1, d2, d3]) rfl ⟨rfl, (((G.setCell (Nat.le_succ _) _).setCell (Nat.le_succ _) _).setCell (Nat.le_succ _) _).setCell (Nat.le_succ _) _⟩

/-- A node's twelve cells. -/
theorem nd12 {w : World} {b : Nat} {pz : Addr} {xf xl s r : Nat} {p q : Value} (h : w.heap[b]? = some (.cells (ndC pz xf xl p q s r) 70 (0, 0))) :
    Six w pz b 0 xf xl ∧ w.cell? ⟨b, 6, none⟩ = some p ∧ w.cell? ⟨b, 7, none⟩ = some q ∧ w.cell? ⟨b, 8, none⟩ = some (.int .i64 s) ∧ w.cell? ⟨b, 9, none⟩ = some (.int .u64 0) ∧ w.cell? ⟨b, 10, none⟩ = some (.int .u64 r) ∧ w.cell? ⟨b, 11, none⟩ = some (.pointer (some pz)) := by
  have k1 := (blkC h).1
  exact ⟨⟨k1 0, k1 1, k1 2, k1 3, k1 4, k1 5⟩, k1 6, k1 7, k1 8, k1 9, k1 10, k1 11⟩


theorem left39 (pz : Addr) (b xf xl s r : Nat) (p q : Option Addr) (w : World) (h : w.heap[b]? = some (.cells (ndC pz xf xl (.pointer p) (.pointer q) s r) 70 (0, 0))) : Calls Tryd.prog 39 #[.pointer (some ⟨b, 0, none⟩)] w fun e w' => e = .returned (.pointer p) ∧ w' = w := by
  obtain ⟨_, c6, _⟩ := nd12 h
  go_enter Tryd.func39, Tryd.ntmps39
  go_wp2
  go_ret
  exact ⟨rfl, rfl⟩

theorem right40 (pz : Addr) (b xf xl s r : Nat) (p q : Option Addr) (w : World) (h : w.heap[b]? = some (.cells (ndC pz xf xl (.pointer p) (.pointer q) s r) 70 (0, 0))) : Calls Tryd.prog 40 #[.pointer (some ⟨b, 0, none⟩)] w fun e w' => e = .returned (.pointer q) ∧ w' = w := by
  obtain ⟨_, _, c7, _⟩ := nd12 h
  go_enter Tryd.func40, Tryd.ntmps40
  go_wp2
  go_ret
  exact ⟨rfl, rfl⟩

theorem size44 (pz : Addr) (b xf xl s r : Nat) (p q : Option Addr) (w : World) (h : w.heap[b]? = some (.cells (ndC pz xf xl (.pointer p) (.pointer q) s r) 70 (0, 0))) : Calls Tryd.prog 44 #[.pointer (some ⟨b, 0, none⟩)] w fun e w' => e = .returned (.int .i64 s) ∧ w' = w := by
  obtain ⟨_, _, _, c8, _⟩ := nd12 h
  go_enter Tryd.func44, Tryd.ntmps44
  go_wp2
  go_ret
  exact ⟨rfl, rfl⟩

theorem entry41 (pz : Addr) (b xf xl s r : Nat) (p q : Option Addr) (w : World) (h : w.heap[b]? = some (.cells (ndC pz xf xl (.pointer p) (.pointer q) s r) 70 (0, 0))) : Calls Tryd.prog 41 #[.pointer (some ⟨b, 0, none⟩)] w fun e w' => e = .returned (.agg #[.int .u64 0, .int .u64 xf, .pointer (some pz), .int .u64 0, .int .u64 xl, .pointer (some pz)]) ∧ Gr w w' := by
  have hb := ndL h
  obtain ⟨⟨c0, c1, c2, c3, c4, c5⟩, _⟩ := nd12 h
  clear h
  go_enter Tryd.func41, Tryd.ntmps41
  go_wp2
  exact bodyPost_ret (v := .agg #[.int .u64 0, .int .u64 xf, .pointer (some pz), .int .u64 0, .int .u64 xl, .pointer (some pz)]) (by simp [results, Tryd.results41, go_sem]) rfl ⟨rfl, (Gr.refl w).alloc _⟩
set_option maxHeartbeats 1000000 in
theorem reach45 (pz : Addr) (b xf xl s : Nat) (x : Ad) (hx : x.ok) (p q : Option Addr) (w : World) (hz : Zs pz w) (h : w.heap[b]? = some (.cells (ndC pz xf xl (.pointer p) (.pointer q) s (lo x)) 70 (0, 0))) :
    Calls Tryd.prog 45 #[.pointer (some ⟨b, 0, none⟩)] w fun e w' => e = .returned (.agg #[.int .u8 (x.a : Nat), .int .u8 (x.b : Nat), .int .u8 (x.c : Nat), .int .u8 (x.d : Nat)]) ∧ Gr w w' := by
  have hb := ndL h
  obtain ⟨_, _, _, _, c9, c10, c11⟩ := nd12 h
  have C := hide (fun W p (hp : p = lo x) (hz : Zs pz W) => as4N p x hp hx pz W hz)
  have HZ := hide hz
  obtain ⟨r, hp⟩ : ∃ p, p = lo x := ⟨_, rfl⟩
  rw [← hp] at c10
  have HP := hide hp
  clear hp hz h
  go_enter Tryd.func45, Tryd.ntmps45
  go_wp2_with fail
  refine (C.out _ r HP.out (HZ.out.gr ((Gr.refl w).alloc _))).mono ?_
  rintro e w1 ⟨rfl, G1⟩
  obtain ⟨k1, k2⟩ := blkC (G1.blk (new1 w _))
  have d0 : w1.cell? ⟨w.heap.size, 0, none⟩ = some (.int .u8 0) := k1 0
  have d1 : w1.cell? ⟨w.heap.size, 1, none⟩ = some (.int .u8 0) := k1 1
  have d2 : w1.cell? ⟨w.heap.size, 2, none⟩ = some (.int .u8 0) := k1 2
  have d3 : w1.cell? ⟨w.heap.size, 3, none⟩ = some (.int .u8 0) := k1 3
  have f0 := k2 0
  have f1 := k2 1
  have f2 := k2 2
  have f3 := k2 3
  clear k1 k2
  go_wp2
  have G := (Gr.refl w).alloc _ |>.trans G1
  exact bodyPost_ret (v := .agg #[.int .u8 (x.a : Nat), .int .u8 (x.b : Nat), .int .u8 (x.c : Nat), .int .u8 (x.d : Nat)]) (by simp [results, Tryd.results45, go_sem, d0, d1, d2, d3]) rfl ⟨rfl, (((G.setCell (Nat.le_refl _) _).setCell (Nat.le_refl _) _).setCell (Nat.le_refl _) _).setCell (Nat.le_refl _) _⟩

set_option maxHeartbeats 1000000 in
/-- ZZchangedEmpty. -/
theorem chgEmpty23 (pz : Addr) (b : Nat) (p q : Option Addr) (a : Bool) (x : Rg) (w : World) (h : LsAt w b (.pointer p) (.pointer q)) :
    Calls Tryd.prog 23 #[.pointer (some ⟨b, 0, none⟩), .string (listS a), .agg (x.ent pz).toArray] w fun e w' => Chged (· = .nil) pz p q a w e w' := by
  have C := hide (fun W (G : Gr w W) => changed34 (· = .nil) pz b p q a x W (h.gr G) (fun W2 _ => (clos34 _ x pz W2).mono (by
    rintro e w' ⟨rfl, g⟩
    exact ⟨.nil, rfl, rfl, trivial, g⟩)))
  clear h
  simp only [Rg.ent] at *
  generalize lo x.f = xf at *
  generalize lo x.l = xl at *
  go_enter Tryd.func23, Tryd.ntmps23
  go_wp2_with fail
  refine (C.out _ ((Gr.refl w).alloc _)).mono ?_
  rintro e w' ⟨c, t, rfl, h1, h2, h3, h4, G1⟩
  go_wp2
  go_ret
  exact ⟨c, t, rfl, Nat.le_trans ((Gr.refl w).alloc _).size h1, h2, h3, h4, ((Gr.refl w).alloc _).trans G1⟩
end Go.Proofs.Qxb6609544aDoor
