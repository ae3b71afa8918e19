import Derived.Test.Qxb6609544aDoorJoin
import Derived.Deep.Trees
namespace Go.Proofs.Qxb6609544aDoor
open Go.RowKit Go.Sort Go.Deep

/-- A tree of entries as it lies in memory: at each node its entry, its size, its reach. -/
abbrev TT := BT (Rg × Nat × Ad)
def cnt : TT → Nat
  | .nil => 0
  | .node _ _ _ l r => cnt l + cnt r + 1
def els : TT → List Rg
  | .nil => []
  | .node _ _ a l r => els l ++ a.1 :: els r
def mxl (a : Ad) : TT → Ad
  | .nil => a
  | .node _ _ n _ _ => if a.num < n.2.2.num then n.2.2 else a
/-- Sizes and reaches are true. -/
def Good : TT → Prop
  | .nil => True
  | .node _ _ n l r => n.2.1 = cnt l + cnt r + 1 ∧ n.2.2 = mxl (mxl n.1.l l) r ∧ Good l ∧ Good r
/-- Balanced by weight. -/
def Bal : TT → Prop
  | .nil => True
  | .node _ _ _ l r => cnt r + 1 ≤ 3 * (cnt l + 1) ∧ cnt l + 1 ≤ 3 * (cnt r + 1) ∧ Bal l ∧ Bal r
def InT (pz : Addr) (w : World) : TT → Prop
  | .nil => True
  | .node b o n l r => o = 0 ∧ w.heap[b]? = some (.cells (ndC pz (lo n.1.f) (lo n.1.l) l.ptr r.ptr n.2.1 (lo n.2.2)) 70 (0, 0)) ∧ InT pz w l ∧ InT pz w r
def chOf : TT → Ch
  | .nil => none
  | .node b _ n _ _ => some (b, n.2.1, lo n.2.2)

theorem els_len : ∀ t : TT, (els t).length = cnt t
  | .nil => rfl
  | .node _ _ _ l r => by simp [els, cnt, els_len l, els_len r]; omega

theorem InT.keep {pz : Addr} {w w' : World} : ∀ {t : TT}, InT pz w t → (∀ (b : Nat) (cs : Array Value), w.heap[b]? = some (.cells cs 70 (0, 0)) → w'.heap[b]? = some (.cells cs 70 (0, 0))) → InT pz w' t
  | .nil, _, _ => trivial
  | .node _ _ _ _ _, ⟨h0, h1, h2, h3⟩, k => ⟨h0, k _ _ h1, h2.keep k, h3.keep k⟩

theorem InT.gr {pz : Addr} {w w' : World} {t : TT} (h : InT pz w t) (g : Gr w w') : InT pz w' t := h.keep fun _ _ hb => g.blk hb

theorem chOf_ptr {pz : Addr} {w : World} {t : TT} (h : InT pz w t) : (chOf t).ptr = t.ptr := by
  cases t with
  | nil => rfl
  | node b o n l r =>
    obtain ⟨rfl, _⟩ := h
    rfl

theorem chOf_at {pz : Addr} {w : World} {t : TT} (h : InT pz w t) (hg : Good t) (hc : cnt t ≤ 1048576) : (chOf t).At pz w := by
  cases t with
  | nil => trivial
  | node b o n l r =>
    obtain ⟨rfl, h1, _⟩ := h
    obtain ⟨⟨a, b, c, d⟩, _⟩ := ndK h1
    have e := hg.1
    simp only [cnt] at hc
    exact ⟨a, b, c, d, by omega, _, rfl⟩

theorem upS_ch {t : TT} (hg : Good t) (s : Nat) : upS s (chOf t) = s + cnt t := by
  cases t with
  | nil => rfl
  | node b o n l r => simp only [chOf, upS, cnt, hg.1]
theorem upR_ch (t : TT) (a : Ad) : upR (lo a) (chOf t) = lo (mxl a t) := by
  cases t with
  | nil => rfl
  | node b o n l r =>
    simp only [chOf, upR, mxl]
    by_cases h : a.num < n.2.2.num
    · rw [if_pos h, if_pos (by unfold lo; omega)]
    · rw [if_neg h, if_neg (by unfold lo; omega)]

/-- join over trees. -/
theorem joinT (pz : Addr) (x : Rg) (l r : TT) (w : World) (hz : Zs pz w) (hl : InT pz w l) (hr : InT pz w r) (gl : Good l) (gr : Good r) (hcl : cnt l ≤ 1048576) (hcr : cnt r ≤ 1048576) :
    Calls Tryd.prog 53 #[l.ptr, .agg (x.ent pz).toArray, r.ptr] w fun e w' => ∃ t : TT, e = .returned t.ptr ∧ (∃ b, t = .node b 0 (x, cnt l + cnt r + 1, mxl (mxl x.l l) r) l r ∧ w.heap.size ≤ b) ∧ InT pz w' t ∧ Good t ∧ Gr w w' := by
  have h := joinN pz (lo x.f) (lo x.l) (chOf l) (chOf r) w hz (chOf_at hl gl hcl) (chOf_at hr gr hcr) ⟨_, rfl⟩
  rw [chOf_ptr hl, chOf_ptr hr, upS_ch gl, upS_ch gr, upR_ch, upR_ch] at h
  refine h.mono ?_
  rintro e w' ⟨rfl, hb, hg⟩
  refine ⟨.node (w.heap.size + 1) 0 (x, cnt l + cnt r + 1, mxl (mxl x.l l) r) l r, rfl, ⟨_, rfl, by omega⟩, ⟨rfl, ?_, hl.gr hg, hr.gr hg⟩, ⟨rfl, rfl, gl, gr⟩, hg⟩
  rw [hb]
  have e : 1 + cnt l + cnt r = cnt l + cnt r + 1 := by omega
  rw [e]

theorem InT.below {pz : Addr} {w w' : World} {t : TT} (h : InT pz w t) (g : Below w.heap.size w w') : InT pz w' t := h.keep fun b _ hb => (g.block b (ndL hb)).trans hb
/-- A store into a block that is no node's. -/
theorem InT.off {pz : Addr} {w : World} {t : TT} (h : InT pz w t) {g : Nat} {cs : Array Value} {ty : TypeId} (hty : ty ≠ 70) (hg : w.heap[g]? = some (.cells cs ty (0, 0))) (o : Nat) (v : Value) : InT pz (w.setCell ⟨g, o, none⟩ v) t := by
  refine h.keep fun b cs' hb => ?_
  have hne : g ≠ b := by
    rintro rfl
    rw [hg] at hb
    have := Option.some.inj hb
    injection this with _ h2
    exact hty h2
  unfold World.setCell
  simp only [Array.getElem?_modify]
  rw [if_neg hne]
  exact hb
theorem ptrE (t : TT) : ∃ p, t.ptr = .pointer p := by cases t <;> exact ⟨_, rfl⟩
theorem Zs.below {pz : Addr} {w w' : World} (h : Zs pz w) (g : Below w.heap.size w w') : Zs pz w' :=
  ⟨(g.cell (World.block_lt_of_cell? _ _ h.1)).trans h.1, (g.cell (World.block_lt_of_cell? _ _ h.2)).trans h.2⟩
end Go.Proofs.Qxb6609544aDoor
