import Derived.Test.Qxb6609544aDoorEq4
import Derived.Deep.DeepCutAuto
import Derived.Deep.RegionLaw
namespace Go.Proofs.Qxb6609544aDoor
open Go.RowKit Go.Sort Go.Deep

/-- What walk leaves. -/
def Walked (B ob : Nat) (t : TT) (v : Value) (l : List Rg) (w : World) (e : Ending) (w' : World) : Prop := ∃ v', e = .returned (.tuple #[.int .i64 (cnt t : Nat), (rch t).val, .bool true]) ∧ OutAt w' B ob v' (l ++ els t) ∧ KR ob v w v' w'

def WalkC (pz : Addr) (B ob : Nat) (t : TT) : Prop := ∀ (w : World) (v : Value) (l : List Rg), Zs pz w → InT pz w t → OutAt w B ob v l → l.length + cnt t ≤ 1048576 → Calls Tryd.prog 27 #[t.ptr, .pointer (some ⟨ob, 0, none⟩)] w fun e w' => Walked B ob t v l w e w'

theorem walk_nil (pz : Addr) (B ob : Nat) : WalkC pz B ob .nil := by
  intro w v l hz hi ho hl
  have HO := hide ho
  clear hz hi ho hl
  simp only [BT.ptr]
  go_enter Tryd.func27, Tryd.ntmps27
  go_wp2
  refine bodyPost_ret (v := .tuple #[.int .i64 0, .agg #[.int .u8 0, .int .u8 0, .int .u8 0, .int .u8 0], .bool true]) (by simp [results, Tryd.results27, go_sem]) rfl ⟨v, rfl, ?_, KR.ofGr ((Gr.refl w).alloc _)⟩
  have := HO.out.gr ((Gr.refl w).alloc (.cells #[.int .u8 0, .int .u8 0, .int .u8 0, .int .u8 0] 35))
  simpa [els] using this

def a4 (x : Ad) : Array Value := #[.int .u8 (x.a : Nat), .int .u8 (x.b : Nat), .int .u8 (x.c : Nat), .int .u8 (x.d : Nat)]

theorem sixNew (w3 : World) (pz : Addr) (xf xl : Nat) : (fun w' => w'.cell? ⟨w3.heap.size, 0, none⟩ = some (.int .u64 0) ∧ w'.cell? ⟨w3.heap.size, 1, none⟩ = some (.int .u64 xf) ∧ w'.cell? ⟨w3.heap.size, 2, none⟩ = some (.pointer (some pz)) ∧ w'.cell? ⟨w3.heap.size, 3, none⟩ = some (.int .u64 0) ∧ w'.cell? ⟨w3.heap.size, 4, none⟩ = some (.int .u64 xl) ∧ w'.cell? ⟨w3.heap.size, 5, none⟩ = some (.pointer (some pz))) (w3.alloc (.cells #[.int .u64 0, .int .u64 xf, .pointer (some pz), .int .u64 0, .int .u64 xl, .pointer (some pz)] 49)) := by
  obtain ⟨k1, _⟩ := blkC (new1 w3 (.cells #[.int .u64 0, .int .u64 xf, .pointer (some pz), .int .u64 0, .int .u64 xl, .pointer (some pz)] 49))
  exact ⟨k1 0, k1 1, k1 2, k1 3, k1 4, k1 5⟩
theorem gr_lt {w w' : World} {o : Obj} (h : Gr (w.alloc o) w') : w.heap.size < w'.heap.size := by
  have := h.size
  simp at this
  omega
theorem z8c {w : World} {b : Nat} (h : w.heap[b]? = some (.cells #[.int .u8 0, .int .u8 0, .int .u8 0, .int .u8 0, .int .u8 0, .int .u8 0, .int .u8 0, .int .u8 0] 37 (0, 0))) : (w.cell? ⟨b, 0, none⟩ = some (.int .u8 0) ∧ w.cell? ⟨b, 1, none⟩ = some (.int .u8 0) ∧ w.cell? ⟨b, 2, none⟩ = some (.int .u8 0) ∧ w.cell? ⟨b, 3, none⟩ = some (.int .u8 0) ∧ w.cell? ⟨b, 4, none⟩ = some (.int .u8 0) ∧ w.cell? ⟨b, 5, none⟩ = some (.int .u8 0) ∧ w.cell? ⟨b, 6, none⟩ = some (.int .u8 0) ∧ w.cell? ⟨b, 7, none⟩ = some (.int .u8 0)) ∧ (w.frozen? ⟨b, 0, none⟩ = false ∧ w.frozen? ⟨b, 1, none⟩ = false ∧ w.frozen? ⟨b, 2, none⟩ = false ∧ w.frozen? ⟨b, 3, none⟩ = false ∧ w.frozen? ⟨b, 4, none⟩ = false ∧ w.frozen? ⟨b, 5, none⟩ = false ∧ w.frozen? ⟨b, 6, none⟩ = false ∧ w.frozen? ⟨b, 7, none⟩ = false) := by
  obtain ⟨k1, k2⟩ := blkC h
  exact ⟨⟨k1 0, k1 1, k1 2, k1 3, k1 4, k1 5, k1 6, k1 7⟩, k2 0, k2 1, k2 2, k2 3, k2 4, k2 5, k2 6, k2 7⟩
theorem fold8 {w : World} {b : Nat} (h : w.heap[b]? = some (.cells #[.int .u8 0, .int .u8 0, .int .u8 0, .int .u8 0, .int .u8 0, .int .u8 0, .int .u8 0, .int .u8 0] 37 (0, 0))) (x : Rg) : ((((((((w.setCell ⟨b, 0, none⟩ (.int .u8 (x.f.a : Nat))).setCell ⟨b, 1, none⟩ (.int .u8 (x.f.b : Nat))).setCell ⟨b, 2, none⟩ (.int .u8 (x.f.c : Nat))).setCell ⟨b, 3, none⟩ (.int .u8 (x.f.d : Nat))).setCell ⟨b, 4, none⟩ (.int .u8 (x.l.a : Nat))).setCell ⟨b, 5, none⟩ (.int .u8 (x.l.b : Nat))).setCell ⟨b, 6, none⟩ (.int .u8 (x.l.c : Nat))).setCell ⟨b, 7, none⟩ (.int .u8 (x.l.d : Nat))).heap[b]? = some (.cells x.cells.toArray 37 (0, 0)) := by
  have := (Lib.heap_setCell_same (Lib.heap_setCell_same (Lib.heap_setCell_same (Lib.heap_setCell_same (Lib.heap_setCell_same (Lib.heap_setCell_same (Lib.heap_setCell_same (Lib.heap_setCell_same h (i := 0) (.int .u8 (x.f.a : Nat))) (i := 1) (.int .u8 (x.f.b : Nat))) (i := 2) (.int .u8 (x.f.c : Nat))) (i := 3) (.int .u8 (x.f.d : Nat))) (i := 4) (.int .u8 (x.l.a : Nat))) (i := 5) (.int .u8 (x.l.b : Nat))) (i := 6) (.int .u8 (x.l.c : Nat))) (i := 7) (.int .u8 (x.l.d : Nat)))
  simpa [Rg.cells] using this
theorem gr8 {a w : World} {b : Nat} (h : Gr a w) (hb : a.heap.size ≤ b) (x : Rg) : Gr a ((((((((w.setCell ⟨b, 0, none⟩ (.int .u8 (x.f.a : Nat))).setCell ⟨b, 1, none⟩ (.int .u8 (x.f.b : Nat))).setCell ⟨b, 2, none⟩ (.int .u8 (x.f.c : Nat))).setCell ⟨b, 3, none⟩ (.int .u8 (x.f.d : Nat))).setCell ⟨b, 4, none⟩ (.int .u8 (x.l.a : Nat))).setCell ⟨b, 5, none⟩ (.int .u8 (x.l.b : Nat))).setCell ⟨b, 6, none⟩ (.int .u8 (x.l.c : Nat))).setCell ⟨b, 7, none⟩ (.int .u8 (x.l.d : Nat))) := ((((((((h.setCell hb _).setCell hb _).setCell hb _).setCell hb _).setCell hb _).setCell hb _).setCell hb _).setCell hb _)
theorem r8c {w : World} {b : Nat} {x : Rg} (h : w.heap[b]? = some (.cells x.cells.toArray 37 (0, 0))) : w.cell? ⟨b, 0, none⟩ = some (.int .u8 (x.f.a : Nat)) ∧ w.cell? ⟨b, 1, none⟩ = some (.int .u8 (x.f.b : Nat)) ∧ w.cell? ⟨b, 2, none⟩ = some (.int .u8 (x.f.c : Nat)) ∧ w.cell? ⟨b, 3, none⟩ = some (.int .u8 (x.f.d : Nat)) ∧ w.cell? ⟨b, 4, none⟩ = some (.int .u8 (x.l.a : Nat)) ∧ w.cell? ⟨b, 5, none⟩ = some (.int .u8 (x.l.b : Nat)) ∧ w.cell? ⟨b, 6, none⟩ = some (.int .u8 (x.l.c : Nat)) ∧ w.cell? ⟨b, 7, none⟩ = some (.int .u8 (x.l.d : Nat)) := by
  have k1 := (blkC h).1
  exact ⟨k1 0, k1 1, k1 2, k1 3, k1 4, k1 5, k1 6, k1 7⟩
theorem stepApp {P : Program} {ops : Array Oper} {o : Oper} {a : Act} {w : World} {K : Act → World → Prop} {Q : Exit → Act → World → Prop} {E : Prop}
    (hg : o.guard = none) (s x : Operand) (t : TypeId) (hop : o.op = Op.call { callee := Callee.builtin Builtin.append, args := #[s, x], argTypes := #[t, t] })
    (v xv v' : Value) (w' : World) (hs : a.eval s = v) (hx : a.eval x = xv) (hrun : (Builtin.append_ #[t, t] o.type #[v, xv]).run P w = .ok v' w')
    (hK : K (a.put o.dst v') w') : if Region.wanted o (yielded ops a.tmps) = true then Oper.wp P o a w K Q else E := by
  have hw : Region.wanted o (yielded ops a.tmps) = true := by simp [Region.wanted, hg]
  rw [if_pos hw]
  unfold Oper.wp
  simp [execOp, hop, resolve, invoke, builtin, hs, hx, hrun, Result.andThen]
  exact hK
theorem a4c {w : World} {b : Nat} {x : Ad} (h : w.heap[b]? = some (.cells #[.int .u8 (x.a : Nat), .int .u8 (x.b : Nat), .int .u8 (x.c : Nat), .int .u8 (x.d : Nat)] 35 (0, 0))) : w.cell? ⟨b, 0, none⟩ = some (.int .u8 (x.a : Nat)) ∧ w.cell? ⟨b, 1, none⟩ = some (.int .u8 (x.b : Nat)) ∧ w.cell? ⟨b, 2, none⟩ = some (.int .u8 (x.c : Nat)) ∧ w.cell? ⟨b, 3, none⟩ = some (.int .u8 (x.d : Nat)) := by
  have k1 := (blkC h).1
  exact ⟨k1 0, k1 1, k1 2, k1 3⟩
/-- Does the child's reach go past a? -/
def up1 (a : Ad) : TT → Bool
  | .nil => false
  | .node _ _ n _ _ => decide (a.num < n.2.2.num)
theorem mxl_up (a : Ad) (t : TT) : mxl a t = if up1 a t then rch t else a := by
  cases t with
  | nil => rfl
  | node b o n l r => by_cases h : a.num < n.2.2.num <;> simp [mxl, up1, rch, h]
theorem up1_none {a : Ad} {t : TT} (h : t.ptr = .pointer none) : up1 a t = false := by
  cases t with
  | nil => rfl
  | node b o n l r => simp [BT.ptr] at h
theorem up1_some {a : Ad} {t : TT} {q : Addr} (h : t.ptr = .pointer (some q)) : up1 a t = decide (0 < cmpN (rch t).num a.num) := by
  cases t with
  | nil => simp [BT.ptr] at h
  | node b o n l r =>
    simp only [up1, rch]
    unfold cmpN
    by_cases h1 : n.2.2.num < a.num
    · have : ¬ a.num < n.2.2.num := by omega
      simp [h1, this]
    · by_cases h2 : a.num < n.2.2.num <;> simp [h1, h2]
theorem rch_ok {t : TT} (h : Okt t) : (rch t).ok := by
  cases t with
  | nil => unfold rch Ad.ok; decide
  | node b o n l r => exact h.2.1
theorem a4f {w : World} {b : Nat} {cs : Array Value} {ty : TypeId} (h : w.heap[b]? = some (.cells cs ty (0, 0))) : w.frozen? ⟨b, 0, none⟩ = false ∧ w.frozen? ⟨b, 1, none⟩ = false ∧ w.frozen? ⟨b, 2, none⟩ = false ∧ w.frozen? ⟨b, 3, none⟩ = false := by
  have k2 := (blkC h).2
  exact ⟨k2 0, k2 1, k2 2, k2 3⟩
theorem blk4 {w : World} {b : Nat} {v0 v1 v2 v3 : Value} {ty : TypeId} (h : w.heap[b]? = some (.cells #[v0, v1, v2, v3] ty (0, 0))) : w.cell? ⟨b, 0, none⟩ = some v0 ∧ w.cell? ⟨b, 1, none⟩ = some v1 ∧ w.cell? ⟨b, 2, none⟩ = some v2 ∧ w.cell? ⟨b, 3, none⟩ = some v3 := by
  have k1 := (blkC h).1
  exact ⟨k1 0, k1 1, k1 2, k1 3⟩
theorem OutAt.off {w : World} {B ob : Nat} {v : Value} {l : List Rg} (h : OutAt w B ob v l) {k : Nat} (h1 : k ≠ ob) (h2 : some k ≠ v.ownBlock) (i : Nat) (u : Value) : OutAt (w.setCell ⟨k, i, none⟩ u) B ob v l := by
  have hset : w.grownBy (w.setCell ⟨k, i, none⟩ u) (some k) := grownBy_setCells k [u] i w
  obtain ⟨a, b, c⟩ := h
  refine ⟨?_, b.kept hset (Or.inr fun e => h2 e.symm), Nat.le_trans c hset.size⟩
  exact (hset.block ob (ndL a) (by simp; exact fun e => h1 e.symm)).trans a
theorem KR.put {ob : Nat} {v v' : Value} {w w' : World} (h : KR ob v w v' w') {k : Nat} (hk : w.heap.size ≤ k) (i : Nat) (u : Value) : KR ob v w v' (w'.setCell ⟨k, i, none⟩ u) := by
  have hset : w'.grownBy (w'.setCell ⟨k, i, none⟩ u) (some k) := grownBy_setCells k [u] i w'
  exact ⟨hset.os.trans h.os, hset.tape.trans h.tape, hset.output.trans h.output, Nat.le_trans h.size hset.size, fun j hj a b => (hset.block j (Nat.lt_of_lt_of_le hj h.size) (by simp; omega)).trans (h.block j hj a b), h.own⟩
theorem firstN (x : Rg) (hx : x.ok) (pz : Addr) (xf xl : Nat) (h1 : lo x.f = xf) (h2 : lo x.l = xl) (w : World) (hz : Zs pz w) :
    Calls Tryd.prog 42 #[.agg #[.int .u64 0, .int .u64 xf, .pointer (some pz), .int .u64 0, .int .u64 xl, .pointer (some pz)]] w fun e w' => e = .returned (.agg #[.int .u8 (x.f.a : Nat), .int .u8 (x.f.b : Nat), .int .u8 (x.f.c : Nat), .int .u8 (x.f.d : Nat)]) ∧ Gr w w' := by
  subst h1 h2
  exact first42 x hx pz w hz
theorem lastN (x : Rg) (hx : x.ok) (pz : Addr) (xf xl : Nat) (h1 : lo x.f = xf) (h2 : lo x.l = xl) (w : World) (hz : Zs pz w) :
    Calls Tryd.prog 43 #[.agg #[.int .u64 0, .int .u64 xf, .pointer (some pz), .int .u64 0, .int .u64 xl, .pointer (some pz)]] w fun e w' => e = .returned (.agg #[.int .u8 (x.l.a : Nat), .int .u8 (x.l.b : Nat), .int .u8 (x.l.c : Nat), .int .u8 (x.l.d : Nat)]) ∧ Gr w w' := by
  subst h1 h2
  exact last43 x hx pz w hz

set_option maxHeartbeats 8000000 in
set_option maxRecDepth 20000 in
theorem walk_node (pz : Addr) (B ob : Nat) (hB : 1 < B) (hob : 1 < ob) (b o : Nat) (n : Rg × Nat × Ad) (tl tr : TT) (hg : Good (.node b o n tl tr)) (hbal : Bal (.node b o n tl tr)) (hok : Okt (.node b o n tl tr)) (IL : WalkC pz B ob tl) (IR : WalkC pz B ob tr) : WalkC pz B ob (.node b o n tl tr) := by
  intro w v l hz hi ho hl
  obtain ⟨x, s, rr⟩ := n
  obtain ⟨rfl, hb, il, ir⟩ := hi
  obtain ⟨hs, hrr, gl, gr⟩ := hg
  obtain ⟨bl, br, _, _⟩ := hbal
  obtain ⟨okx, okr, okl, okr'⟩ := hok
  simp only at hs hrr hb okx okr
  simp only [cnt] at hl
  -- the pointers
  obtain ⟨p1, hp1⟩ := ptrE tl
  obtain ⟨p2, hp2⟩ := ptrE tr
  rw [hp1, hp2] at hb
  have G0 : Gr w (w.alloc (.cells #[.int .u8 0, .int .u8 0, .int .u8 0, .int .u8 0] 35)) := (Gr.refl w).alloc _
  have b5 := new1 w (.cells #[.int .u8 0, .int .u8 0, .int .u8 0, .int .u8 0] 35)
  have o0 := ho.gr G0
  have C39 := hide (left39 pz b _ _ _ _ p1 p2 _ (G0.blk hb))
  have C40 := hide (right40 pz b _ _ _ _ p1 p2 _ (G0.blk hb))
  have CL := hide (IL _ v l (hz.gr G0) (il.gr G0) o0 (by omega))
  rw [hp1] at CL
  have HZ := hide hz
  have HB := hide hb
  have HO := hide ho
  have O0 := hide o0
  have B5 := hide b5
  have HIR := hide ir
  have EQS := hide (And.intro hs hrr)
  have BAL := hide (And.intro bl br)
  have OKS := hide (And.intro okx (And.intro okr (And.intro okl okr')))
  have P1 := hide hp1
  have P2 := hide hp2
  have HL := hide hl
  have HIR2 := hide IR
  clear hz hb ho o0 b5 ir hs hrr bl br okx okr okl okr' hp1 hp2 il IL IR hl gl gr
  simp only [BT.ptr]
  go_enter Tryd.func27, Tryd.ntmps27
  go_wp2_with fail
  refine C39.out.mono ?_
  rintro e w1 ⟨rfl, rfl⟩
  go_wp2_with fail
  refine C40.out.mono ?_
  rintro e w1 ⟨rfl, rfl⟩
  go_wp2_with fail
  refine CL.out.mono ?_
  rintro e w1 ⟨v1, rfl, o1, k1⟩
  clear C39 C40 CL
  have B5' := k1.blk B5.out (HO.out.new (Nat.le_refl _)).1 (HO.out.new (Nat.le_refl _)).2
  have nb := HO.out.node HB.out (by decide) (by decide)
  have HB1 := k1.blk (G0.blk HB.out) nb.1 nb.2
  have HIR1 := hide ((HIR.out.gr G0).kr O0.out k1)
  have HZ1 := hide ((HZ.out.gr G0).kr O0.out hB hob k1)
  have K1 := hide ((KR.ofGr (ob := ob) (v := v) G0).trans k1)
  have O1 := hide o1
  have hs1 : w.heap.size + 1 ≤ w1.heap.size := by have := k1.size; simpa using this
  clear B5 O0 k1 o1 G0 HIR HZ HB nb
  obtain ⟨al, hal⟩ : ∃ a, rch tl = a := ⟨_, rfl⟩
  have HAL := hide hal
  rw [hal]
  clear hal
  simp only [Ad.val]
  have G2 : Gr w1 (w1.alloc (.cells #[.int .u8 (al.a : Nat), .int .u8 (al.b : Nat), .int .u8 (al.c : Nat), .int .u8 (al.d : Nat)] 35)) := (Gr.refl w1).alloc _
  have B10 := hide (new1 w1 (.cells #[.int .u8 (al.a : Nat), .int .u8 (al.b : Nat), .int .u8 (al.c : Nat), .int .u8 (al.d : Nat)] 35))
  have C41 := hide (entry41 pz b _ _ _ _ p1 p2 _ (G2.blk HB1))
  obtain ⟨xf, hxf⟩ : ∃ a, lo x.f = a := ⟨_, rfl⟩
  obtain ⟨xl, hxl⟩ : ∃ a, lo x.l = a := ⟨_, rfl⟩
  rw [hxf, hxl] at C41
  have HXF := hide (And.intro hxf hxl)
  have B5q := hide B5'
  have HB1q := hide HB1
  clear hxf hxl B5' HB1
  go_wp2_with fail
  refine C41.out.mono ?_
  rintro e w3 ⟨rfl, G3⟩
  clear C41
  have G4 : Gr w1 ((w3.alloc (.cells #[.int .u64 0, .int .u64 xf, .pointer (some pz), .int .u64 0, .int .u64 xl, .pointer (some pz)] 49)).drew) := ((G2.trans G3).alloc _).drew
  have K0 := hide (sixNew w3 pz xf xl)
  have C42 := hide (fun W (hz : Zs pz W) => firstN x OKS.out.1 pz xf xl HXF.out.1 HXF.out.2 W hz)
  have C43 := hide (fun W (hz : Zs pz W) => lastN x OKS.out.1 pz xf xl HXF.out.1 HXF.out.2 W hz)
  have G4n : Gr w1 (w3.alloc (.cells #[.int .u64 0, .int .u64 xf, .pointer (some pz), .int .u64 0, .int .u64 xl, .pointer (some pz)] 49)) := (G2.trans G3).alloc _
  have hw13 := gr_lt G3
  go_upto_region 9 with fail
  go_cut [13] (fun s13 wx => ∃ hk, s13 = .pointer (some ⟨hk, 0, none⟩) ∧ w3.heap.size < hk ∧ wx.heap[hk]? = some (.cells x.cells.toArray 37 (0, 0)) ∧ Gr (w3.alloc (.cells #[.int .u64 0, .int .u64 xf, .pointer (some pz), .int .u64 0, .int .u64 xl, .pointer (some pz)] 49)) wx)
  case first =>
    obtain ⟨y0, y1, y2, y3, y4, y5⟩ := K0.out
    go_region_with (first
    | (go_at_call 42; refine (C42.out _ (HZ1.out.gr (by first | exact G4n.drew | exact (G4n.alloc _).drew | exact G4n.drew.alloc _))).mono ?_; rintro e w5 ⟨rfl, G5⟩; have R5 : Gr (w3.alloc (.cells #[.int .u64 0, .int .u64 xf, .pointer (some pz), .int .u64 0, .int .u64 xl, .pointer (some pz)] 49)) w5 := (by first | exact (Gr.refl _).drew.trans G5 | exact ((Gr.refl _).alloc _).drew.trans G5 | exact ((Gr.refl _).drew.alloc _).trans G5); obtain ⟨z0, z1, z2, z3, z4, z5⟩ := R5.keep6 K0.out; (first | have hbz := G5.blk (show ((((w3.alloc (.cells #[.int .u64 0, .int .u64 xf, .pointer (some pz), .int .u64 0, .int .u64 xl, .pointer (some pz)] 49)).alloc (.cells #[.int .u8 0, .int .u8 0, .int .u8 0, .int .u8 0, .int .u8 0, .int .u8 0, .int .u8 0, .int .u8 0] 37)).drew).heap[w3.heap.size + 1]? = _) from new2 w3 _ _) | have hbz := G5.blk (show (((w3.alloc (.cells #[.int .u64 0, .int .u64 xf, .pointer (some pz), .int .u64 0, .int .u64 xl, .pointer (some pz)] 49)).drew.alloc (.cells #[.int .u8 0, .int .u8 0, .int .u8 0, .int .u8 0, .int .u8 0, .int .u8 0, .int .u8 0, .int .u8 0] 37)).heap[w3.heap.size + 1]? = _) from new2 w3 _ _) | skip); have hl5 := gr_lt R5)
    | (go_at_call 43; refine (C43.out _ (HZ1.out.gr (by first | exact G4n.trans R5 | exact (G4n.trans R5).alloc _))).mono ?_; rintro e w6 ⟨rfl, G6⟩; have R6 : Gr (w3.alloc (.cells #[.int .u64 0, .int .u64 xf, .pointer (some pz), .int .u64 0, .int .u64 xl, .pointer (some pz)] 49)) w6 := (by first | exact R5.trans G6 | exact (R5.alloc _).trans G6); (first | (have hbz6 := G6.blk hbz; obtain ⟨⟨u0, u1, u2, u3, u4, u5, u6, u7⟩, t0, t1, t2, t3, t4, t5, t6, t7⟩ := z8c hbz6) | (have hbz6 := G6.blk (new1 w5 (.cells #[.int .u8 0, .int .u8 0, .int .u8 0, .int .u8 0, .int .u8 0, .int .u8 0, .int .u8 0, .int .u8 0] 37)); obtain ⟨⟨u0, u1, u2, u3, u4, u5, u6, u7⟩, t0, t1, t2, t3, t4, t5, t6, t7⟩ := z8c hbz6) | skip); have hl6 := gr_lt R6))
    all_goals
      go_wp2_with fail
      go_meet
      first
        | exact ⟨_, rfl, hl6, new1 w6 _, R6.alloc _⟩
        | exact ⟨_, rfl, hl5, fold8 hbz6 x, gr8 R6 R5.size x⟩
        | exact ⟨_, rfl, Nat.lt_succ_self _, fold8 hbz6 x, gr8 R6 (by simp) x⟩
  case rest =>
  obtain ⟨hk, rfl, hk1, HH, RC⟩ := hcut
  have GC := G4n.trans RC
  have B10' := hide (RC.blk (((Gr.refl w3).alloc _).blk (G3.blk B10.out)))
  have hk2 := gr_lt G3
  clear C42 C43 K0 G4 G4n
  have OC := O1.out.gr GC
  obtain ⟨v2, w7, hrun, c7, f7, ⟨pa, na, ca, rfl⟩, O7, K7⟩ := appOut OC (by have := HL.out; simp [els_len]; omega) x
  have cOb : wc.cell? ⟨ob, 0, none⟩ = some v1 := (blkC OC.1).1 0
  have hobc := ndL OC.1
  obtain ⟨y0, y1, y2, y3, y4, y5, y6, y7⟩ := r8c HH
  have hhc := ndL HH
  simp only [Rg.cells] at hrun
  have O7' := hide O7
  have K7' := hide K7
  have HH' := hide HH
  have GC' := hide GC
  have OC' := hide OC
  clear O7 K7 HH GC OC
  have HRUN := hide hrun
  clear hrun
  go_upto_region 10 with fail
  go_cut [] (fun wx => wx = w7.setCell ⟨ob, 0, none⟩ (.slice pa na ca))
  case first =>
    go_region_law (refine stepApp rfl (.tmp 46) (.tmp 48) 22 rfl _ _ _ w7 rfl rfl HRUN.out ?_)
    all_goals
      go_wp2_with fail
      go_meet
      rfl
  case rest =>
  obtain rfl := hcut
  have Z8 := hide ((HZ1.out.gr GC'.out).kr OC'.out hB hob K7'.out)
  have I8 := hide ((HIR1.out.gr GC'.out).kr OC'.out K7'.out)
  have C27 := hide (HIR2.out _ _ _ Z8.out I8.out O7'.out (by have := HL.out; simp [els_len]; omega))
  rw [P2.out] at C27
  have n5 := OC'.out.node (GC'.out.blk B5q.out) (by decide) (by decide)
  have B5r := hide (K7'.out.blk (GC'.out.blk B5q.out) n5.1 n5.2)
  have n10 := OC'.out.node B10'.out (by decide) (by decide)
  have B10r := hide (K7'.out.blk B10'.out n10.1 n10.2)
  have nb := OC'.out.node (GC'.out.blk HB1q.out) (by decide) (by decide)
  have HBr := hide (K7'.out.blk (GC'.out.blk HB1q.out) nb.1 nb.2)
  have nh := O1.out.new (b := hk) (by omega)
  have HHr := hide (K7'.out.blk HH'.out nh.1 nh.2)
  have nh2 : some hk ≠ (Value.slice pa na ca).ownBlock := by
    rcases K7'.out.own with e | e
    · rw [e]; exact nh.2
    · intro e2
      have := e hk e2.symm
      omega
  have nh1 := nh.1
  have KK8 := hide (K1.out.trans ((KR.ofGr GC'.out).trans K7'.out))
  have O8 := hide O7'.out
  generalize w7.setCell ⟨ob, 0, none⟩ (.slice pa na ca) = w8 at *
  generalize hv2 : Value.slice pa na ca = v2 at *
  clear n5 n10 nb nh HH' OC' GC' K7' O7' B10' HB1q B5q y0 y1 y2 y3 y4 y5 y6 y7 cOb hobc c7 f7 HRUN hhc B10 G2 G3 K1 O1 HIR1 HZ1 I8 hv2
  go_wp2_with fail
  refine C27.out.mono ?_
  rintro e w9 ⟨v3, rfl, O9, K9⟩
  clear C27
  have n5 := O8.out.node B5r.out (by decide) (by decide)
  have B5s := K9.blk B5r.out n5.1 n5.2
  have n10 := O8.out.node B10r.out (by decide) (by decide)
  have B10s := K9.blk B10r.out n10.1 n10.2
  have nb := O8.out.node HBr.out (by decide) (by decide)
  have HBs := hide (K9.blk HBr.out nb.1 nb.2)
  have HHs := K9.blk HHr.out nh1 nh2
  have Z9 := hide (Z8.out.kr O8.out hB hob K9)
  have KK9 := hide (KK8.out.trans K9)
  have O9' := hide O9
  obtain ⟨ar, har⟩ : ∃ a, rch tr = a := ⟨_, rfl⟩
  have HAR := hide har
  rw [har]
  clear har n5 n10 nb B5r B10r HBr HHr Z8 KK8 O8 K9 O9 nh1 nh2
  simp only [Ad.val]
  obtain ⟨_, _, _, _, y4, y5, y6, y7⟩ := r8c HHs
  have hhk := ndL HHs
  have hb5 := ndL B5s
  have hb10 := ndL B10s
  obtain ⟨j0, j1, j2, j3⟩ := a4c B10s
  go_upto_region 15 with fail
  have C25 := hide (fun W => cmp4 al x.l (by rw [← HAL.out]; exact rch_ok OKS.out.2.2.1) OKS.out.1.2 W)
  simp only [Ad.val] at C25
  have UN := hide (fun h => up1_none (a := x.l) (t := tl) h)
  have US := hide (fun q h => up1_some (a := x.l) (t := tl) (q := q) h)
  go_cut [70] (fun s70 wx => s70 = .bool (up1 x.l tl) ∧ Gr ((w9.alloc (.cells #[.int .u8 (ar.a : Nat), .int .u8 (ar.b : Nat), .int .u8 (ar.c : Nat), .int .u8 (ar.d : Nat)] 35)).alloc (.cells #[.int .u8 (x.l.a : Nat), .int .u8 (x.l.b : Nat), .int .u8 (x.l.c : Nat), .int .u8 (x.l.d : Nat)] 35)) wx)
  case first =>
    cases p1 with
    | none =>
      have E := hide (UN.out P1.out)
      go_wp2_with fail
      go_meet
      exact ⟨by rw [E.out], Gr.refl _⟩
    | some q =>
      have e := US.out q P1.out
      rw [HAL.out] at e
      have E := hide e
      clear e
      generalize cmpN al.num x.l.num = cc at *
      go_wp2_with fail
      refine (C25.out _).mono ?_
      rintro e1 wq ⟨rfl, gq⟩
      go_wp2_with fail
      go_meet
      exact ⟨by rw [E.out], gq⟩
  case rest =>
  obtain ⟨rfl, GB⟩ := hcut
  have GA : Gr (w9.alloc (.cells #[.int .u8 (ar.a : Nat), .int .u8 (ar.b : Nat), .int .u8 (ar.c : Nat), .int .u8 (ar.d : Nat)] 35)) wc := ((Gr.refl _).alloc _).trans GB
  have b17 := GB.blk (new2 w9 (.cells #[.int .u8 (ar.a : Nat), .int .u8 (ar.b : Nat), .int .u8 (ar.c : Nat), .int .u8 (ar.d : Nat)] 35) (.cells #[.int .u8 (x.l.a : Nat), .int .u8 (x.l.b : Nat), .int .u8 (x.l.c : Nat), .int .u8 (x.l.d : Nat)] 35))
  have j0' := GA.cell (((Gr.refl w9).alloc _).cell j0)
  have j1' := GA.cell (((Gr.refl w9).alloc _).cell j1)
  have j2' := GA.cell (((Gr.refl w9).alloc _).cell j2)
  have j3' := GA.cell (((Gr.refl w9).alloc _).cell j3)
  obtain ⟨m0, m1, m2, m3⟩ := a4c b17
  obtain ⟨n0, n1, n2, n3⟩ := a4f b17
  have MX := hide (mxl_up x.l tl)
  go_upto_if 70 with fail
  go_cut [] (fun wx => wx.heap[w9.heap.size + 1]? = some (.cells (a4 (mxl x.l tl)) 35 (0, 0)) ∧ Gr (w9.alloc (.cells #[.int .u8 (ar.a : Nat), .int .u8 (ar.b : Nat), .int .u8 (ar.c : Nat), .int .u8 (ar.d : Nat)] 35)) wx)
  case first =>
    cases hu : up1 x.l tl with
    | false =>
      have E := hide (p := mxl x.l tl = x.l) (by rw [MX.out, hu]; rfl)
      go_wp2_with fail
      go_meet
      exact ⟨by rw [E.out]; exact b17, GA⟩
    | true =>
      have E := hide (p := mxl x.l tl = al) (by rw [MX.out, hu]; exact HAL.out)
      go_wp2_with fail
      go_meet
      refine ⟨?_, (((GA.setCell (by simp) _).setCell (by simp) _).setCell (by simp) _).setCell (by simp) _⟩
      rw [E.out]
      have := Lib.heap_setCell_same (Lib.heap_setCell_same (Lib.heap_setCell_same (Lib.heap_setCell_same b17 (i := 0) (.int .u8 (al.a : Nat))) (i := 1) (.int .u8 (al.b : Nat))) (i := 2) (.int .u8 (al.c : Nat))) (i := 3) (.int .u8 (al.d : Nat))
      simpa [a4] using this
  case rest =>
  obtain ⟨c17, GD⟩ := hcut
  obtain ⟨a1, ha1⟩ : ∃ a, mxl x.l tl = a := ⟨_, rfl⟩
  have OK1 : a1.ok := by rw [← ha1]; exact mxl_ok OKS.out.1.2 OKS.out.2.2.1
  rw [ha1] at c17
  have HA1 := hide ha1
  clear ha1 GA GB b17 j0' j1' j2' j3' m0 m1 m2 m3 n0 n1 n2 n3 MX UN US C25
  have c15 := GD.blk (new1 w9 (.cells #[.int .u8 (ar.a : Nat), .int .u8 (ar.b : Nat), .int .u8 (ar.c : Nat), .int .u8 (ar.d : Nat)] 35))
  simp only [a4] at c17
  obtain ⟨m0, m1, m2, m3⟩ := a4c c17
  obtain ⟨n0, n1, n2, n3⟩ := a4f c17
  obtain ⟨i0, i1, i2, i3⟩ := a4c c15
  have C25 := hide (fun W => cmp4 ar a1 (by rw [← HAR.out]; exact rch_ok OKS.out.2.2.2) OK1 W)
  simp only [Ad.val] at C25
  have UN := hide (fun h => up1_none (a := a1) (t := tr) h)
  have US := hide (fun q h => up1_some (a := a1) (t := tr) (q := q) h)
  have MX := hide (mxl_up a1 tr)
  go_upto_region 17 with fail
  go_cut [79] (fun s79 wx => s79 = .bool (up1 a1 tr) ∧ Gr wc wx)
  case first =>
    cases p2 with
    | none =>
      have E := hide (UN.out P2.out)
      go_wp2_with fail
      go_meet
      exact ⟨by rw [E.out], Gr.refl _⟩
    | some q =>
      have e := US.out q P2.out
      rw [HAR.out] at e
      have E := hide e
      clear e
      generalize cmpN ar.num a1.num = cc at *
      go_wp2_with fail
      refine (C25.out _).mono ?_
      rintro e1 wq ⟨rfl, gq⟩
      go_wp2_with fail
      go_meet
      exact ⟨by rw [E.out], gq⟩
  case rest =>
  obtain ⟨rfl, GE⟩ := hcut
  have d17 := GE.blk c17
  have i0' := GE.cell i0
  have i1' := GE.cell i1
  have i2' := GE.cell i2
  have i3' := GE.cell i3
  clear m0 m1 m2 m3 n0 n1 n2 n3 i0 i1 i2 i3 C25 UN US
  obtain ⟨m0, m1, m2, m3⟩ := a4c d17
  obtain ⟨n0, n1, n2, n3⟩ := a4f d17
  have GF := hide ((((Gr.refl w9).alloc _).trans GD).trans GE)
  go_upto_if 79 with fail
  go_cut [] (fun wx => wx.heap[w9.heap.size + 1]? = some (.cells (a4 (mxl a1 tr)) 35 (0, 0)) ∧ Gr w9 wx)
  case first =>
    cases hu : up1 a1 tr with
    | false =>
      have E := hide (p := mxl a1 tr = a1) (by rw [MX.out, hu]; rfl)
      go_wp2_with fail
      go_meet
      exact ⟨by rw [E.out]; exact d17, GF.out⟩
    | true =>
      have E := hide (p := mxl a1 tr = ar) (by rw [MX.out, hu]; exact HAR.out)
      go_wp2_with fail
      go_meet
      refine ⟨?_, (((GF.out.setCell (Nat.le_succ _) _).setCell (Nat.le_succ _) _).setCell (Nat.le_succ _) _).setCell (Nat.le_succ _) _⟩
      rw [E.out]
      have := Lib.heap_setCell_same (Lib.heap_setCell_same (Lib.heap_setCell_same (Lib.heap_setCell_same d17 (i := 0) (.int .u8 (ar.a : Nat))) (i := 1) (.int .u8 (ar.b : Nat))) (i := 2) (.int .u8 (ar.c : Nat))) (i := 3) (.int .u8 (ar.d : Nat))
      simpa [a4] using this
  case rest =>
  obtain ⟨e17, GG⟩ := hcut
  have hrr : mxl a1 tr = rr := by rw [EQS.out.2, HA1.out]
  rw [hrr] at e17
  have HBt := GG.blk HBs.out
  have B5t := GG.blk B5s
  have Zt := hide (Z9.out.gr GG)
  have hlt17 := ndL e17
  have C44 := hide (fun W (G : Gr wc W) => size44g pz b _ _ _ _ p1 p2 W (G.blk HBt))
  have C45 := hide (fun W (G : Gr wc W) => reach45 pz b _ _ _ rr OKS.out.2.1 p1 p2 W (Zt.out.gr G) (G.blk HBt))
  have hs := EQS.out.1
  have hl := HL.out
  have hbal := BAL.out
  simp only [a4] at e17
  obtain ⟨m0, m1, m2, m3⟩ := a4c e17
  have FIN := hide (fun (w' : World) (hk : KR ob v w v3 w') => hk)
  have CL := hide (rfl : cnt tl = cnt tl)
  generalize hcl : cnt tl = cl at *
  generalize hcr : cnt tr = cr at *
  have HC := hide (And.intro hcl hcr)
  have hsI : (s : Int) = cl + cr + 1 := by omega
  have hclI : (cl : Int) ≤ 1048576 := by omega
  have hcrI : (cr : Int) ≤ 1048576 := by omega
  have hb1I : (cr : Int) + 1 ≤ 3 * (cl + 1) := by omega
  have hb2I : (cl : Int) + 1 ≤ 3 * (cr + 1) := by omega
  have B5u := hide B5t
  have E17 := hide e17
  clear hcl hcr hs hl hbal hrr c17 d17 c15 i0' i1' i2' i3' n0 n1 n2 n3 B5t HBt j0 j1 j2 j3 y4 y5 y6 y7 FIN CL e17 GE GD
  have hm := mixed
  have hq := cellQ
  have hn35 := ne35 rr.a rr.b rr.c rr.d
  have hne : ((s : Int) != (cl : Int) + cr + 1) = false := by simp; omega
  go_upto_region 20 with fail
  refine wp_region_quiet_grown hm (by kernel_rfl) ?_
  repeat (quiet_step (first | (go_at_call 44; exact callsQ (C44.out _ (Gr.of _ _ _))) | (go_at_call 45; exact callsQ (C45.out _ (Gr.of _ _ _)))))
  refine wpQuiet_nil ?_
  intro w10 hw10
  have GH := Gr.ofEx hw10
  clear hw10 C44 C45 hq hm m0 m1 m2 m3 hn35
  have f17 := GH.blk E17.out
  obtain ⟨m0, m1, m2, m3⟩ := a4c f17
  have B5v := GH.blk B5u.out
  obtain ⟨q0, q1, q2, q3⟩ := blk4 B5v
  obtain ⟨n0, n1, n2, n3⟩ := a4f B5v
  have hl0 := ndL B5v
  go_upto_region 24 with fail
  clear hsI hclI hcrI hb1I hb2I hne
  go_region
  all_goals
    go_wp2_with fail
    have n5 := O9'.out.node B5s (by decide) (by decide)
    have o10 := (O9'.out.gr (GG.trans GH))
    have k10 := KK9.out.trans (KR.ofGr (GG.trans GH))
    refine bodyPost_ret (v := .tuple #[.int .i64 ((cl : Int) + cr + 1), .agg #[.int .u8 (rr.a : Nat), .int .u8 (rr.b : Nat), .int .u8 (rr.c : Nat), .int .u8 (rr.d : Nat)], .bool true]) (by simp [results, Tryd.results27, go_sem, q0, q1, q2, q3]) rfl ⟨v3, ?_, ?_, ?_⟩
    · have hc := HC.out
      simp only [cnt, hc.1, hc.2, rch, Ad.val]
      congr 3
    · have e : l ++ els (.node b 0 (x, s, rr) tl tr) = l ++ els tl ++ [x] ++ els tr := by simp [els]
      rw [e]
      exact ((((o10.off n5.1 n5.2 0 _).off n5.1 n5.2 1 _).off n5.1 n5.2 2 _).off n5.1 n5.2 3 _).gr (Gr.refl _).drew
    · exact (((((k10.put (Nat.le_refl _) 0 _).put (Nat.le_refl _) 1 _).put (Nat.le_refl _) 2 _).put (Nat.le_refl _) 3 _)).trans (KR.ofGr (Gr.refl _).drew)

/-- walk: over a sound tree. -/
theorem walk27 (pz : Addr) (B ob : Nat) (hB : 1 < B) (hob : 1 < ob) : ∀ t : TT, Good t → Bal t → Okt t → WalkC pz B ob t
  | .nil, _, _, _ => walk_nil pz B ob
  | .node b o n l r, hg, hb, ho => walk_node pz B ob hB hob b o n l r hg hb ho (walk27 pz B ob hB hob l hg.2.2.1 hb.2.2.1 ho.2.2.1) (walk27 pz B ob hB hob r hg.2.2.2 hb.2.2.2 ho.2.2.2)
end Go.Proofs.Qxb6609544aDoor
