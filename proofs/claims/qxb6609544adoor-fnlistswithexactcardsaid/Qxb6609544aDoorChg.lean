import Derived.Test.Qxb6609544aDoorAcc
namespace Go.Proofs.Qxb6609544aDoor
open Go.RowKit Go.Sort Go.Deep

def listS (a : Bool) : ByteArray := if a then ⟨#[97, 108, 108, 111, 119]⟩ else ⟨#[100, 101, 110, 121]⟩

theorem two59 {w : World} {b : Nat} {p q : Value} (h : LsAt w b p q) (a : Bool) (v : Value) : LsAt (w.setCell ⟨b, if a then 0 else 1, none⟩ v) b (if a then v else p) (if a then q else v) := by
  cases a with
  | true => have := Lib.heap_setCell_same h (i := 0) v; simpa [LsAt] using this
  | false => have := Lib.heap_setCell_same h (i := 1) v; simpa [LsAt] using this

/-- What changed leaves: new lists, the named root turned. -/
def Chged (R : TT → Prop) (pz : Addr) (p q : Option Addr) (a : Bool) (w : World) (e : Ending) (w' : World) : Prop := ∃ (c : Nat) (t : TT), e = .returned (.pointer (some ⟨c, 0, none⟩)) ∧ w.heap.size ≤ c ∧ R t ∧ InT pz w' t ∧ LsAt w' c (if a then t.ptr else .pointer p) (if a then .pointer q else t.ptr) ∧ Gr w w'

set_option maxHeartbeats 2000000 in
/-- changed, over whatever change. -/
theorem changed34 (R : TT → Prop) (pz : Addr) (b : Nat) (p q : Option Addr) (a : Bool) (x : Rg) (w : World) (h : LsAt w b (.pointer p) (.pointer q))
    (C : ∀ W, Gr w W → Calls Tryd.prog 34 #[.agg #[.pointer (if a then p else q)], .agg (x.ent pz).toArray] W fun e w' => ∃ t : TT, e = .returned (.agg #[t.ptr]) ∧ R t ∧ InT pz w' t ∧ Gr W w') :
    Calls Tryd.prog 30 #[.pointer (some ⟨b, 0, none⟩), .string (listS a), .agg (x.ent pz).toArray, .func (.func 34) #[] #[]] w fun e w' => Chged R pz p q a w e w' := by
  simp only [Rg.ent] at *
  generalize lo x.f = xf at *
  generalize lo x.l = xl at *
  have CC := hide C
  have S := hide (fun W b => set47 b a W)
  have hb := ndL h
  obtain ⟨k1, k2⟩ := blkC h
  have c0 : w.cell? ⟨b, 0, none⟩ = some (.pointer p) := k1 0
  have c1 : w.cell? ⟨b, 1, none⟩ = some (.pointer q) := k1 1
  clear k1 k2 C h
  cases a with
  | true =>
    simp only [if_true] at CC S
    go_enter Tryd.func30, Tryd.ntmps30
    go_wp2_with fail
    refine (S.out _ _).mono ?_
    rintro e w1 ⟨rfl, rfl⟩
    go_wp2_with fail
    go_region_with (go_at_call 34; refine (CC.out _ (((Gr.refl w).alloc _).alloc _).drew).mono ?_; rintro e w1 ⟨t, rfl, hR, hI, G1⟩; have hbk := G1.blk (show (((w.alloc _).alloc _).drew).heap[w.heap.size + 1]? = _ from new2 w _ _); obtain ⟨k1, k2⟩ := blkC hbk; have d0 := k1 0; have f0 := k2 0; obtain ⟨r, hr⟩ := ptrE t; have HR := hide hr; rw [hr])
    all_goals
      go_wp2
      go_ret
      refine ⟨w.heap.size + 1, t, rfl, by omega, hR, hI.off (by decide) hbk _ _, ?_, ((((Gr.refl w).alloc _).alloc _).drew.trans G1).setCell (by simp) _⟩
      rw [HR.out]
      exact two59 hbk true _
  | false =>
    simp only [Bool.false_eq_true, if_false] at CC S
    go_enter Tryd.func30, Tryd.ntmps30
    go_wp2_with fail
    refine (S.out _ _).mono ?_
    rintro e w1 ⟨rfl, rfl⟩
    go_wp2_with fail
    go_region_with (go_at_call 34; refine (CC.out _ (((Gr.refl w).alloc _).alloc _).drew).mono ?_; rintro e w1 ⟨t, rfl, hR, hI, G1⟩; have hbk := G1.blk (show (((w.alloc _).alloc _).drew).heap[w.heap.size + 1]? = _ from new2 w _ _); obtain ⟨k1, k2⟩ := blkC hbk; have d0 := k1 1; have f0 := k2 1; obtain ⟨r, hr⟩ := ptrE t; have HR := hide hr; rw [hr])
    all_goals
      go_wp2
      go_ret
      refine ⟨w.heap.size + 1, t, rfl, by omega, hR, hI.off (by decide) hbk _ _, ?_, ((((Gr.refl w).alloc _).alloc _).drew.trans G1).setCell (by simp) _⟩
      rw [HR.out]
      exact two59 hbk false _
end Go.Proofs.Qxb6609544aDoor
