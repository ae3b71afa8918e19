import Derived.Test.Qxb6609544aDoorNode
namespace Go.Proofs.Qxb6609544aDoor
open Go.RowKit Go.Sort Go.Deep

/-- Ranges, cell by cell. -/
def flatR (l : List Rg) : List Value := l.flatMap Rg.cells
theorem flatR_len (l : List Rg) : (flatR l).length = l.length * 8 := by
  induction l with
  | nil => rfl
  | cons a l ih => simp only [flatR, List.flatMap_cons, List.length_append, List.length_cons] at *; rw [ih]; simp [Rg.cells]; omega
theorem flatR_app (l m : List Rg) : flatR (l ++ m) = flatR l ++ flatR m := by simp [flatR]
theorem flatR_at (l : List Rg) : ∀ i (h : i < l.length), ∀ j, j < 8 → (flatR l)[i * 8 + j]? = (l[i].cells)[j]? := by
  induction l with
  | nil => intro i h; simp at h
  | cons a l ih =>
    intro i h j hj
    have hc : (flatR (a :: l)) = a.cells ++ flatR l := by simp [flatR]
    have hl : a.cells.length = 8 := rfl
    rw [hc]
    cases i with
    | zero => rw [List.getElem?_append_left (by omega)]; simp
    | succ i =>
      rw [List.getElem?_append_right (by omega), hl, show (i + 1) * 8 + j - 8 = i * 8 + j by omega]
      rw [ih i (by simpa using h) j hj]
      simp

/-- Variable ob holds the slice v of ranges l, which the walk owns. -/
def OutAt (w : World) (B ob : Nat) (v : Value) (l : List Rg) : Prop := w.heap[ob]? = some (.cells #[v] 22 (0, 0)) ∧ w.ownsRow B 37 8 v l.length (flatR l) ∧ B ≤ w.heap.size

/-- What a walk leaves: every old block but ob and v's own is as it was. -/
structure KR (ob : Nat) (v : Value) (w : World) (v' : Value) (w' : World) : Prop where
  os : w'.os = w.os
  tape : w'.tape = w.tape
  output : w'.output = w.output
  size : w.heap.size ≤ w'.heap.size
  block : ∀ k, k < w.heap.size → k ≠ ob → some k ≠ v.ownBlock → w'.heap[k]? = w.heap[k]?
  own : v'.ownBlock = v.ownBlock ∨ ∀ k, v'.ownBlock = some k → w.heap.size ≤ k

theorem KR.trans {ob : Nat} {v v1 v2 : Value} {w w1 w2 : World} (h : KR ob v w v1 w1) (k : KR ob v1 w1 v2 w2) : KR ob v w v2 w2 := by
  refine ⟨k.os.trans h.os, k.tape.trans h.tape, k.output.trans h.output, Nat.le_trans h.size k.size, fun j hj h1 h2 => ?_, ?_⟩
  · refine (k.block j (Nat.lt_of_lt_of_le hj h.size) h1 ?_).trans (h.block j hj h1 h2)
    rcases h.own with e | e
    · rw [e]; exact h2
    · intro e2
      have := e j e2.symm
      omega
  · rcases k.own with e | e
    · rw [e]; exact h.own
    · exact Or.inr fun j hj => Nat.le_trans h.size (e j hj)

theorem KR.ofGr {ob : Nat} {v : Value} {w w' : World} (g : Gr w w') : KR ob v w v w' := ⟨g.1.os, g.1.tape, g.1.output, g.1.size, fun k hk _ _ => g.1.block k hk, Or.inl rfl⟩

theorem KR.blk {ob : Nat} {v v' : Value} {w w' : World} (h : KR ob v w v' w') {b : Nat} {o : Obj} (hb : w.heap[b]? = some o) (h1 : b ≠ ob) (h2 : some b ≠ v.ownBlock) : w'.heap[b]? = some o := (h.block b (ndL hb) h1 h2).trans hb

/-- Node blocks are no variable's and no row's. -/
theorem OutAt.node {w : World} {B ob : Nat} {v : Value} {l : List Rg} (h : OutAt w B ob v l) {b : Nat} {cs : Array Value} {ty : TypeId} (hb : w.heap[b]? = some (.cells cs ty (0, 0))) (h1 : ty ≠ 22) (h2 : ty ≠ 37) : b ≠ ob ∧ some b ≠ v.ownBlock := by
  obtain ⟨ho, hr, _⟩ := h
  refine ⟨?_, ?_⟩
  · rintro rfl
    rw [ho] at hb
    have := Option.some.inj hb
    injection this with _ e
    exact h1 e.symm
  · intro e
    rcases hr.2 with ⟨rfl, _⟩ | ⟨g, cap, cur, rfl, _, hg, _⟩
    · simp [Value.ownBlock] at e
    · simp only [Value.ownBlock, Option.some.injEq] at e
      subst e
      rw [hg] at hb
      have := Option.some.inj hb
      injection this with _ e
      exact h2 e.symm

theorem OutAt.new {w : World} {B ob : Nat} {v : Value} {l : List Rg} (h : OutAt w B ob v l) {b : Nat} (hb : w.heap.size ≤ b) : b ≠ ob ∧ some b ≠ v.ownBlock := by
  obtain ⟨ho, hr, _⟩ := h
  refine ⟨fun e => ?_, fun e => ?_⟩
  · have := ndL ho; omega
  · have := (hr.lt b e.symm).2; omega

theorem InT.kr {pz : Addr} {w w' : World} {B ob : Nat} {v v' : Value} {l : List Rg} {t : TT} (h : InT pz w t) (o : OutAt w B ob v l) (k : KR ob v w v' w') : InT pz w' t :=
  h.keep fun b _ hb => k.blk hb (o.node hb (by decide) (by decide)).1 (o.node hb (by decide) (by decide)).2

theorem OutAt.gr {w w' : World} {B ob : Nat} {v : Value} {l : List Rg} (h : OutAt w B ob v l) (g : Gr w w') : OutAt w' B ob v l := by
  obtain ⟨h1, h2, h3⟩ := h
  refine ⟨g.blk h1, ?_, Nat.le_trans h3 g.size⟩
  refine h2.kept (row := none) ⟨g.1.os, g.1.tape, g.1.output, g.1.size, fun k hk _ => g.1.block k hk⟩ ?_
  cases e : v.ownBlock with
  | none => exact Or.inl rfl
  | some k => exact Or.inr (by simp)

/-- The reach that walk returns. -/
def rch : TT → Ad
  | .nil => ⟨0, 0, 0, 0⟩
  | .node _ _ n _ _ => n.2.2
/-- All addresses in the tree are addresses. -/
def Okt : TT → Prop
  | .nil => True
  | .node _ _ n l r => n.1.ok ∧ n.2.2.ok ∧ Okt l ∧ Okt r

theorem mxl_ok {a : Ad} {t : TT} (ha : a.ok) (ht : Okt t) : (mxl a t).ok := by
  cases t with
  | nil => exact ha
  | node b o n l r =>
    show (if a.num < n.2.2.num then n.2.2 else a).ok
    split
    · exact ht.2.1
    · exact ha
theorem okt_of : ∀ {t : TT}, Good t → (∀ r ∈ els t, r.ok) → Okt t
  | .nil, _, _ => trivial
  | .node _ _ n l r, ⟨_, h2, h3, h4⟩, h => by
    have hl := okt_of h3 (fun x hx => h x (by simp [els, hx]))
    have hr := okt_of h4 (fun x hx => h x (by simp [els, hx]))
    have hn : n.1.ok := h n.1 (by simp [els])
    exact ⟨hn, by rw [h2]; exact mxl_ok (mxl_ok hn.2 hl) hr, hl, hr⟩

theorem Zs.kr {pz : Addr} {w w' : World} {B ob : Nat} {v v' : Value} {l : List Rg} (h : Zs pz w) (o : OutAt w B ob v l) (hB : 1 < B) (hob : 1 < ob) (k : KR ob v w v' w') : Zs pz w' := by
  have key : ∀ j, j < 2 → j < w.heap.size → w'.heap[j]? = w.heap[j]? := fun j hj hw => k.block j hw (by omega) (fun e => by
    have := (o.2.1.lt j e.symm).1
    omega)
  refine ⟨?_, ?_⟩
  · rw [World.cell?_of_block (key 0 (by omega) (World.block_lt_of_cell? _ _ h.1))]; exact h.1
  · rw [World.cell?_of_block (key 1 (by omega) (World.block_lt_of_cell? _ _ h.2))]; exact h.2
end Go.Proofs.Qxb6609544aDoor
