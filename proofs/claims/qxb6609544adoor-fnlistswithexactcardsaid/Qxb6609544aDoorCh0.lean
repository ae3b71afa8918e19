import Derived.Test.Qxb6609544aDoorBal
import Derived.Test.Qxb6609544aDoorLawP
namespace Go.Proofs.Qxb6609544aDoor
open Go.RowKit Go.Sort Go.Deep

theorem ptr_nil : (BT.nil : TT).ptr = .pointer none := rfl
/-- with's closure at the empty tree. -/
theorem clos56n (pz : Addr) (x : Rg) (w : World) (hz : Zs pz w) : Calls Tryd.prog 56 #[.pointer none, .agg (x.ent pz).toArray] w fun e w' => ∃ t : TT, e = .returned t.ptr ∧ (∃ b, t = .node b 0 (x, 1, x.l) .nil .nil ∧ w.heap.size ≤ b) ∧ InT pz w' t ∧ Good t ∧ Gr w w' := by
  have CJ := hide (fun W (G : Gr w W) => joinT pz x .nil .nil W (hz.gr G) trivial trivial trivial trivial (by decide) (by decide))
  have FIN := hide (fun (t : TT) (W : World) (h : ∃ b, t = .node b 0 (x, cnt .nil + cnt .nil + 1, mxl (mxl x.l .nil) .nil) .nil .nil ∧ W.heap.size ≤ b) (hw : w.heap.size ≤ W.heap.size) => (show ∃ b, t = .node b 0 (x, 1, x.l) .nil .nil ∧ w.heap.size ≤ b by obtain ⟨b, rfl, hb⟩ := h; exact ⟨b, rfl, by omega⟩))
  simp only [ptr_nil, Rg.ent] at *
  generalize lo x.f = xf at *
  generalize lo x.l = xl at *
  clear hz
  have G0 : Gr w (w.alloc (.cells #[.int .u64 0, .int .u64 xf, .pointer (some pz), .int .u64 0, .int .u64 xl, .pointer (some pz)] 49)) := (Gr.refl w).alloc _
  go_enter Tryd.func56, Tryd.ntmps56
  go_wp2_with fail
  refine (CJ.out _ G0).mono ?_
  rintro e w1 ⟨t, rfl, ht, hi, hg, G1⟩
  have H := hide (FIN.out t _ ht G0.size)
  have HI := hide hi
  have HG := hide hg
  have G01 := hide (G0.trans G1)
  obtain ⟨pt, hpt⟩ := ptrE t
  have HPT := hide hpt
  rw [hpt]
  clear hpt hi hg ht CJ FIN G0 G1
  go_wp2_with fail
  go_ret
  exact ⟨t, by rw [HPT.out]; rfl, H.out, HI.out, HG.out, G01.out⟩

/-- .. at a tree that holds e. -/
theorem clos56s (pz : Addr) (x : Rg) (q : Addr) (w : World) : Calls Tryd.prog 56 #[.pointer (some q), .agg (x.ent pz).toArray] w fun e w' => e = .returned (.pointer (some q)) ∧ Gr w w' := by
  simp only [Rg.ent] at *
  generalize lo x.f = xf at *
  generalize lo x.l = xl at *
  go_enter Tryd.func56, Tryd.ntmps56
  go_wp2_with fail
  go_ret
  exact ⟨rfl, (Gr.refl w).alloc _⟩

/-- What change leaves. -/
def Chd (pz : Addr) (x : Rg) (t : TT) (w : World) (e : Ending) (w' : World) : Prop := ∃ t' : TT, e = .returned t'.ptr ∧ InT pz w' t' ∧ Good t' ∧ Bal t' ∧ Gr w w' ∧ ((t' = t ∧ x ∈ els t) ∨ ((∃ b n a c, t' = .node b 0 n a c ∧ w.heap.size ≤ b) ∧ Put x (els t) (els t')))
def ChangeC (pz : Addr) (x : Rg) (t : TT) : Prop := ∀ w, Zs pz w → InT pz w t → Calls Tryd.prog 55 #[t.ptr, .agg (x.ent pz).toArray, .func (.func 56) #[] #[]] w fun e w' => Chd pz x t w e w'

/-- A new node is no old one. -/
theorem neTree {pz : Addr} {W w : World} {t t' : TT} (h0 : InT pz W t) (hi : InT pz w t) (hf : ∃ b n a c, t' = .node b 0 n a c ∧ W.heap.size ≤ b) (hi' : InT pz w t') : (binOp .eql 30 t'.ptr t.ptr).run Tryd.prog w = .ok (.bool false) w := by
  obtain ⟨b, n, a, c, rfl, hb⟩ := hf
  cases t with
  | nil => exact run_eql_pointer_nil w 30 (some ⟨b, 0, none⟩) (by kernel_rfl)
  | node b2 o2 n2 l2 r2 =>
    obtain ⟨i, hin, hs⟩ := info70
    obtain ⟨rfl, h1, _⟩ := hi
    obtain ⟨_, h2, _⟩ := hi'
    have hlt := ndL h0.2.1
    exact run_eql_ptr_other w Tryd.underlying30 hin (by omega) (by intro e; injection e with e; omega) h2 h1

set_option maxHeartbeats 1000000 in
theorem change_nil (pz : Addr) (x : Rg) : ChangeC pz x .nil := by
  intro w hz _
  have C := hide (fun W (G : Gr w W) => clos56n pz x W (hz.gr G))
  have FIN := hide (fun (t : TT) (W w' : World) (h : ∃ b, t = .node b 0 (x, 1, x.l) .nil .nil ∧ W.heap.size ≤ b) (hi : InT pz w' t) (hg : Good t) (G : Gr w w') (hw : w.heap.size ≤ W.heap.size) => (show Chd pz x .nil w (.returned t.ptr) w' by
    obtain ⟨b, rfl, hb⟩ := h
    exact ⟨_, rfl, hi, hg, ⟨by simp [cnt], by simp [cnt], trivial, trivial⟩, G, Or.inr ⟨⟨b, _, _, _, rfl, by omega⟩, [], [], rfl, rfl, by simp, by simp⟩⟩))
  simp only [ptr_nil, Rg.ent] at *
  generalize lo x.f = xf at *
  generalize lo x.l = xl at *
  clear hz
  have G0 : Gr w (w.alloc (.cells #[.int .u64 0, .int .u64 xf, .pointer (some pz), .int .u64 0, .int .u64 xl, .pointer (some pz)] 49)) := (Gr.refl w).alloc _
  go_enter Tryd.func55, Tryd.ntmps55
  go_wp2_with fail
  refine (C.out _ G0).mono ?_
  rintro e w1 ⟨t, rfl, ht, hi, hg, G1⟩
  have F := hide (FIN.out t _ w1 ht hi hg (G0.trans G1) G0.size)
  obtain ⟨pt, hpt⟩ := ptrE t
  rw [hpt] at F ⊢
  clear hpt hi hg ht C FIN G0 G1
  go_wp2_with fail
  go_ret
  exact F.out
end Go.Proofs.Qxb6609544aDoor
