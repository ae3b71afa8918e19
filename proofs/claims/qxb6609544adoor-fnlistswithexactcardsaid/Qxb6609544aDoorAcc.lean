import Derived.Test.Qxb6609544aDoorLists
namespace Go.Proofs.Qxb6609544aDoor
open Go.RowKit Go.Sort Go.Deep

theorem root12 (p : Option Addr) (w : World) : Calls Tryd.prog 12 #[.agg #[.pointer p]] w fun e w' => e = .returned (.pointer p) ∧ Gr w w' := by
  go_enter Tryd.func12, Tryd.ntmps12
  go_wp2
  go_ret
  exact ⟨rfl, (Gr.refl w).alloc _⟩

theorem allow13 (b : Nat) (p q : Option Addr) (w : World) (h : LsAt w b (.pointer p) (.pointer q)) : Calls Tryd.prog 13 #[.pointer (some ⟨b, 0, none⟩)] w fun e w' => e = .returned (.agg #[.pointer p]) ∧ Gr w w' := by
  have hb := ndL h
  obtain ⟨k1, k2⟩ := blkC h
  have c0 : w.cell? ⟨b, 0, none⟩ = some (.pointer p) := k1 0
  clear k1 k2
  go_enter Tryd.func13, Tryd.ntmps13
  go_wp2
  exact bodyPost_ret (v := .agg #[.pointer p]) (by simp [results, Tryd.results13, go_sem]) rfl ⟨rfl, (Gr.refl w).alloc _⟩

theorem deny14 (b : Nat) (p q : Option Addr) (w : World) (h : LsAt w b (.pointer p) (.pointer q)) : Calls Tryd.prog 14 #[.pointer (some ⟨b, 0, none⟩)] w fun e w' => e = .returned (.agg #[.pointer q]) ∧ Gr w w' := by
  have hb := ndL h
  obtain ⟨k1, k2⟩ := blkC h
  have c0 : w.cell? ⟨b, 1, none⟩ = some (.pointer q) := k1 1
  clear k1 k2
  go_enter Tryd.func14, Tryd.ntmps14
  go_wp2
  exact bodyPost_ret (v := .agg #[.pointer q]) (by simp [results, Tryd.results14, go_sem]) rfl ⟨rfl, (Gr.refl w).alloc _⟩

theorem clos34 (p : Option Addr) (x : Rg) (pz : Addr) (w : World) : Calls Tryd.prog 34 #[.agg #[.pointer p], .agg (x.ent pz).toArray] w fun e w' => e = .returned (.agg #[.pointer none]) ∧ Gr w w' := by
  simp only [Rg.ent]
  generalize lo x.f = xf
  generalize lo x.l = xl
  go_enter Tryd.func34, Tryd.ntmps34
  go_wp2
  exact bodyPost_ret (v := .agg #[.pointer none]) (by simp [results, Tryd.results34, go_sem]) rfl ⟨rfl, (((Gr.refl w).alloc _).alloc _).alloc _⟩

theorem LsAt.gr {w w' : World} {b : Nat} {p q : Value} (h : LsAt w b p q) (g : Gr w w') : LsAt w' b p q := g.blk h

/-- pick. -/
theorem pick24 (b : Nat) (p q : Option Addr) (a : Bool) (w : World) (h : LsAt w b (.pointer p) (.pointer q)) : Calls Tryd.prog 24 #[.pointer (some ⟨b, 0, none⟩), .bool a] w fun e w' => e = .returned (.agg #[.pointer (if a then p else q)]) ∧ Gr w w' := by
  have C1 := hide (fun W G => allow13 b p q W (h.gr G))
  have C2 := hide (fun W G => deny14 b p q W (h.gr G))
  clear h
  cases a with
  | true =>
    go_enter Tryd.func24, Tryd.ntmps24
    go_wp2_with fail
    refine (C1.out _ ((Gr.refl w).alloc _)).mono ?_
    rintro e w1 ⟨rfl, G1⟩
    obtain ⟨k1, k2⟩ := blkC (G1.blk (new1 w (.cells #[.pointer none] 33)))
    have c0 : w1.cell? ⟨w.heap.size, 0, none⟩ = some (.pointer none) := k1 0
    have f0 := k2 0
    have hc := World.cell?_setCell_same _ _ (.pointer p) c0
    clear k1 k2
    go_wp2
    exact bodyPost_ret (v := .agg #[.pointer p]) (by simp [results, Tryd.results24, go_sem, hc]) rfl ⟨rfl, (((Gr.refl w).alloc _).trans G1).setCell (Nat.le_refl _) _⟩
  | false =>
    go_enter Tryd.func24, Tryd.ntmps24
    go_wp2_with fail
    refine (C2.out _ ((Gr.refl w).alloc _)).mono ?_
    rintro e w1 ⟨rfl, G1⟩
    obtain ⟨k1, k2⟩ := blkC (G1.blk (new1 w (.cells #[.pointer none] 33)))
    have c0 : w1.cell? ⟨w.heap.size, 0, none⟩ = some (.pointer none) := k1 0
    have f0 := k2 0
    have hc := World.cell?_setCell_same _ _ (.pointer q) c0
    clear k1 k2
    go_wp2
    exact bodyPost_ret (v := .agg #[.pointer q]) (by simp [results, Tryd.results24, go_sem, hc]) rfl ⟨rfl, (((Gr.refl w).alloc _).trans G1).setCell (Nat.le_refl _) _⟩

/-- set: where the named list's root lies. -/
theorem set47 (b : Nat) (a : Bool) (w : World) : Calls Tryd.prog 47 #[.pointer (some ⟨b, 0, none⟩), .string (if a then ⟨#[97, 108, 108, 111, 119]⟩ else ⟨#[100, 101, 110, 121]⟩)] w fun e w' => e = .returned (.pointer (some ⟨b, if a then 0 else 1, none⟩)) ∧ w' = w := by
  cases a with
  | true =>
    go_enter Tryd.func47, Tryd.ntmps47
    go_wp2
    go_ret
    exact ⟨rfl, rfl⟩
  | false =>
    go_enter Tryd.func47, Tryd.ntmps47
    go_wp2
    go_ret
    exact ⟨rfl, rfl⟩
end Go.Proofs.Qxb6609544aDoor
