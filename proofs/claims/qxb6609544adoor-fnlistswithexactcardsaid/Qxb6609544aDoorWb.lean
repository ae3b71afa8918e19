/- Balance by weight: what 'balance' restores. Plain. -/
import Derived.Test.Qxb6609544aDoorTree
namespace Go.Proofs.Qxb6609544aDoor
open Go.RowKit Go.Sort Go.Deep

/-- Out of balance by one at the most. -/
def NB (l r : TT) : Prop := cnt l + 1 ≤ 3 * (cnt r + 1) + 1 ∧ cnt r + 1 ≤ 3 * (cnt l + 1) + 1

/-- What balance hands back. -/
def Bald (pz : Addr) (w w' : World) (x : Rg) (l r : TT) (e : Ending) : Prop := ∃ t : TT, e = .returned t.ptr ∧ els t = els l ++ x :: els r ∧ Good t ∧ Bal t ∧ InT pz w' t ∧ (∃ b n a c, t = .node b 0 n a c ∧ w.heap.size ≤ b) ∧ Gr w w'

section
variable {pz : Addr} {w w0 w' : World} {x : Rg} {l r t t1 t2 : TT}

theorem bald_C (ht : ∃ b, t = .node b 0 (x, cnt l + cnt r + 1, mxl (mxl x.l l) r) l r ∧ w0.heap.size ≤ b) (hw : w.heap.size ≤ w0.heap.size) (bl : Bal l) (br : Bal r) (h1 : ¬ 3 * (cnt l + 1) < cnt r + 1) (h2 : ¬ 3 * (cnt r + 1) < cnt l + 1) (hi : InT pz w' t) (hg : Good t) (G : Gr w w') : Bald pz w w' x l r (.returned t.ptr) := by
  obtain ⟨b, rfl, hb⟩ := ht
  exact ⟨_, rfl, rfl, hg, ⟨by omega, by omega, bl, br⟩, hi, ⟨b, _, _, _, rfl, by omega⟩, G⟩

theorem bald_A1 {y : Rg} {b o s : Nat} {a : Ad} {rl rr : TT} {w1 : World} (ht1 : ∃ b, t1 = .node b 0 (x, cnt l + cnt rl + 1, mxl (mxl x.l l) rl) l rl ∧ w1.heap.size ≤ b) (ht : ∃ b, t = .node b 0 (y, cnt t1 + cnt rr + 1, mxl (mxl y.l t1) rr) t1 rr ∧ w0.heap.size ≤ b) (hw : w.heap.size ≤ w0.heap.size)
    (bl : Bal l) (br : Bal (.node b o (y, s, a) rl rr)) (nb : NB l (.node b o (y, s, a) rl rr)) (h1 : 3 * (cnt l + 1) < cnt (.node b o (y, s, a) rl rr) + 1) (h2 : cnt rl + 1 < 2 * (cnt rr + 1)) (hi : InT pz w' t) (hg : Good t) (G : Gr w w') : Bald pz w w' x l (.node b o (y, s, a) rl rr) (.returned t.ptr) := by
  obtain ⟨b1, rfl, _⟩ := ht1
  obtain ⟨b2, rfl, hb⟩ := ht
  obtain ⟨q1, q2, q3, q4⟩ := br
  obtain ⟨n1, n2⟩ := nb
  simp only [cnt] at *
  exact ⟨_, rfl, by simp [els], hg, ⟨by simp only [cnt]; omega, by simp only [cnt]; omega, ⟨by omega, by omega, bl, q3⟩, q4⟩, hi, ⟨b2, _, _, _, rfl, by omega⟩, G⟩

theorem bald_A2 {y z : Rg} {b o s bi oi si : Nat} {a ai : Ad} {il ir rr : TT} {w1 w2 : World} (ht1 : ∃ b, t1 = .node b 0 (x, cnt l + cnt il + 1, mxl (mxl x.l l) il) l il ∧ w1.heap.size ≤ b) (ht2 : ∃ b, t2 = .node b 0 (y, cnt ir + cnt rr + 1, mxl (mxl y.l ir) rr) ir rr ∧ w2.heap.size ≤ b) (ht : ∃ b, t = .node b 0 (z, cnt t1 + cnt t2 + 1, mxl (mxl z.l t1) t2) t1 t2 ∧ w0.heap.size ≤ b) (hw : w.heap.size ≤ w0.heap.size)
    (bl : Bal l) (br : Bal (.node b o (y, s, a) (.node bi oi (z, si, ai) il ir) rr)) (nb : NB l (.node b o (y, s, a) (.node bi oi (z, si, ai) il ir) rr)) (h1 : 3 * (cnt l + 1) < cnt (.node b o (y, s, a) (.node bi oi (z, si, ai) il ir) rr) + 1) (h2 : ¬ cnt (.node bi oi (z, si, ai) il ir) + 1 < 2 * (cnt rr + 1)) (hi : InT pz w' t) (hg : Good t) (G : Gr w w') : Bald pz w w' x l (.node b o (y, s, a) (.node bi oi (z, si, ai) il ir) rr) (.returned t.ptr) := by
  obtain ⟨b1, rfl, _⟩ := ht1
  obtain ⟨b2, rfl, _⟩ := ht2
  obtain ⟨b3, rfl, hb⟩ := ht
  obtain ⟨q1, q2, ⟨q5, q6, q7, q8⟩, q4⟩ := br
  obtain ⟨n1, n2⟩ := nb
  simp only [cnt] at *
  exact ⟨_, rfl, by simp [els], hg, ⟨by simp only [cnt]; omega, by simp only [cnt]; omega, ⟨by omega, by omega, bl, q7⟩, ⟨by omega, by omega, q8, q4⟩⟩, hi, ⟨b3, _, _, _, rfl, by omega⟩, G⟩

theorem bald_B1 {y : Rg} {b o s : Nat} {a : Ad} {ll lr : TT} {w1 : World} (ht1 : ∃ b, t1 = .node b 0 (x, cnt lr + cnt r + 1, mxl (mxl x.l lr) r) lr r ∧ w1.heap.size ≤ b) (ht : ∃ b, t = .node b 0 (y, cnt ll + cnt t1 + 1, mxl (mxl y.l ll) t1) ll t1 ∧ w0.heap.size ≤ b) (hw : w.heap.size ≤ w0.heap.size)
    (bl : Bal (.node b o (y, s, a) ll lr)) (br : Bal r) (nb : NB (.node b o (y, s, a) ll lr) r) (h1 : 3 * (cnt r + 1) < cnt (.node b o (y, s, a) ll lr) + 1) (h2 : cnt lr + 1 < 2 * (cnt ll + 1)) (hi : InT pz w' t) (hg : Good t) (G : Gr w w') : Bald pz w w' x (.node b o (y, s, a) ll lr) r (.returned t.ptr) := by
  obtain ⟨b1, rfl, _⟩ := ht1
  obtain ⟨b2, rfl, hb⟩ := ht
  obtain ⟨q1, q2, q3, q4⟩ := bl
  obtain ⟨n1, n2⟩ := nb
  simp only [cnt] at *
  exact ⟨_, rfl, by simp [els], hg, ⟨by simp only [cnt]; omega, by simp only [cnt]; omega, q3, ⟨by omega, by omega, q4, br⟩⟩, hi, ⟨b2, _, _, _, rfl, by omega⟩, G⟩

theorem bald_B2 {y z : Rg} {b o s bi oi si : Nat} {a ai : Ad} {il ir ll : TT} {w1 w2 : World} (ht1 : ∃ b, t1 = .node b 0 (y, cnt ll + cnt il + 1, mxl (mxl y.l ll) il) ll il ∧ w1.heap.size ≤ b) (ht2 : ∃ b, t2 = .node b 0 (x, cnt ir + cnt r + 1, mxl (mxl x.l ir) r) ir r ∧ w2.heap.size ≤ b) (ht : ∃ b, t = .node b 0 (z, cnt t1 + cnt t2 + 1, mxl (mxl z.l t1) t2) t1 t2 ∧ w0.heap.size ≤ b) (hw : w.heap.size ≤ w0.heap.size)
    (bl : Bal (.node b o (y, s, a) ll (.node bi oi (z, si, ai) il ir))) (br : Bal r) (nb : NB (.node b o (y, s, a) ll (.node bi oi (z, si, ai) il ir)) r) (h1 : 3 * (cnt r + 1) < cnt (.node b o (y, s, a) ll (.node bi oi (z, si, ai) il ir)) + 1) (h2 : ¬ cnt (.node bi oi (z, si, ai) il ir) + 1 < 2 * (cnt ll + 1)) (hi : InT pz w' t) (hg : Good t) (G : Gr w w') : Bald pz w w' x (.node b o (y, s, a) ll (.node bi oi (z, si, ai) il ir)) r (.returned t.ptr) := by
  obtain ⟨b1, rfl, _⟩ := ht1
  obtain ⟨b2, rfl, _⟩ := ht2
  obtain ⟨b3, rfl, hb⟩ := ht
  obtain ⟨q1, q2, q3, ⟨q5, q6, q7, q8⟩⟩ := bl
  obtain ⟨n1, n2⟩ := nb
  simp only [cnt] at *
  exact ⟨_, rfl, by simp [els], hg, ⟨by simp only [cnt]; omega, by simp only [cnt]; omega, ⟨by omega, by omega, q3, q7⟩, ⟨by omega, by omega, q8, br⟩⟩, hi, ⟨b3, _, _, _, rfl, by omega⟩, G⟩
end

/-- x put in where it belongs. -/
def Put (x : Rg) (l l' : List Rg) : Prop := ∃ s u, l = s ++ u ∧ l' = s ++ x :: u ∧ (∀ y ∈ s, y.key < x.key) ∧ ∀ y ∈ u, x.key < y.key

theorem Put.mem {x : Rg} {l l' : List Rg} (h : Put x l l') (r : Rg) : r ∈ l' ↔ r ∈ l ∨ r = x := by
  obtain ⟨s, u, rfl, rfl, _, _⟩ := h
  simp only [List.mem_append, List.mem_cons]
  constructor
  · rintro (h | h | h)
    · exact Or.inl (Or.inl h)
    · exact Or.inr h
    · exact Or.inl (Or.inr h)
  · rintro ((h | h) | h)
    · exact Or.inl h
    · exact Or.inr (Or.inr h)
    · exact Or.inr (Or.inl h)
theorem Put.len {x : Rg} {l l' : List Rg} (h : Put x l l') : l'.length = l.length + 1 := by
  obtain ⟨s, u, rfl, rfl, _, _⟩ := h
  simp
  omega
theorem Put.sorted {x : Rg} {l l' : List Rg} (h : Put x l l') (hs : l.Pairwise (fun x y => x.key < y.key)) : l'.Pairwise (fun x y => x.key < y.key) := by
  obtain ⟨s, u, rfl, rfl, h1, h2⟩ := h
  rw [List.pairwise_append] at hs ⊢
  refine ⟨hs.1, List.pairwise_cons.2 ⟨h2, hs.2.1⟩, fun a ha b hb => ?_⟩
  rcases List.mem_cons.1 hb with rfl | hb
  · exact h1 a ha
  · exact hs.2.2 a ha b hb
theorem Put.left {x y : Rg} {l l' r : List Rg} (h : Put x l l') (hy : x.key < y.key) (hr : ∀ z ∈ r, y.key < z.key) : Put x (l ++ y :: r) (l' ++ y :: r) := by
  obtain ⟨s, u, rfl, rfl, h1, h2⟩ := h
  refine ⟨s, u ++ y :: r, by simp, by simp, h1, fun z hz => ?_⟩
  simp only [List.mem_append, List.mem_cons] at hz
  rcases hz with hz | rfl | hz
  · exact h2 z hz
  · exact hy
  · have := hr z hz; omega
theorem Put.right {x y : Rg} {l r r' : List Rg} (h : Put x r r') (hy : y.key < x.key) (hl : ∀ z ∈ l, z.key < y.key) : Put x (l ++ y :: r) (l ++ y :: r') := by
  obtain ⟨s, u, rfl, rfl, h1, h2⟩ := h
  refine ⟨l ++ y :: s, u, by simp, by simp, fun z hz => ?_, h2⟩
  simp only [List.mem_append, List.mem_cons] at hz
  rcases hz with hz | rfl | hz
  · have := hl z hz; omega
  · exact hy
  · exact h1 z hz
end Go.Proofs.Qxb6609544aDoor
