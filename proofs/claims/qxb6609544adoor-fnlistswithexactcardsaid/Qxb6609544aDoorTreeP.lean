/- Plain facts for treeIs. -/
import Derived.Test.Qxb6609544aDoorAppR
import Derived.Test.Qxb6609544aDoorFind
import Derived.Test.Qxb6609544aDoorQuietB
namespace Go.Proofs.Qxb6609544aDoor
open Go.RowKit Go.Sort Go.Deep

theorem asc_of {l : List Rg} (hok : ∀ r ∈ l, r.ok) (hs : l.Pairwise (fun x y => x.key < y.key)) : ∀ k (h : k + 1 < l.length), cmpR l[k] l[k + 1] < 0 := by
  intro k h
  have h1 := List.pairwise_iff_getElem.1 hs k (k + 1) (by omega) h (by omega)
  rw [cmpR_key (hok _ (List.getElem_mem _)) (hok _ (List.getElem_mem _)), cmpN_lt h1]
  decide

theorem find_of {l : List Rg} (hok : ∀ r ∈ l, r.ok) (hs : l.Pairwise (fun x y => x.key < y.key)) {x : Rg} {p : Nat} (hp : p < l.length) (hx : l[p] = x) :
    ∀ k (h : k < l.length), (cmpR l[k] x = 0 → k = p) ∧ (cmpR l[k] x < 0 → k < p) ∧ (0 < cmpR l[k] x → p < k) := by
  intro k h
  have hle : ∀ i j (hi : i < l.length) (hj : j < l.length), i < j → l[i].key < l[j].key := fun i j hi hj hij => List.pairwise_iff_getElem.1 hs i j hi hj hij
  subst hx
  rw [cmpR_key (hok _ (List.getElem_mem _)) (hok _ (List.getElem_mem _))]
  rcases Nat.lt_trichotomy k p with h1 | h1 | h1
  · rw [cmpN_lt (hle k p h hp h1)]
    exact ⟨by intro h; exact absurd h (by decide), fun _ => h1, by intro h; exact absurd h (by decide)⟩
  · subst h1
    rw [cmpN_eq rfl]
    exact ⟨fun _ => rfl, by intro h; exact absurd h (by decide), by intro h; exact absurd h (by decide)⟩
  · rw [cmpN_gt (hle p k hp h h1)]
    exact ⟨by intro h; exact absurd h (by decide), by intro h; exact absurd h (by decide), fun _ => h1⟩

/-- The row that walk has filled, as a slice. -/
theorem OutAt.isSl {w : World} {B ob : Nat} {v : Value} {l : List Rg} (h : OutAt w B ob v l) (hok : ∀ r ∈ l, r.ok) : IsSl w v l := by
  refine ⟨hok, ?_⟩
  obtain ⟨_, ⟨hlen, h | ⟨g, cap, cur, rfl, _, hg, _, _, hcs, htake⟩⟩, _⟩ := h
  · exact .inl ⟨h.1, List.length_eq_zero_iff.1 h.2⟩
  · refine .inr ⟨g, 0, cap, rfl, fun i hi j hj => ?_⟩
    have e1 : w.cell? ⟨g, 0 + i * 8 + j, none⟩ = cur[0 + i * 8 + j]? := (blkC hg).1 _
    rw [e1, ← flatR_at l i hi j hj, ← htake, List.getElem?_take, if_pos (by omega)]
    simp

theorem IsSl.below {w w' : World} {sv : Value} {l : List Rg} (h : IsSl w sv l) (g : Below w.heap.size w w') : IsSl w' sv l := by
  refine ⟨h.1, ?_⟩
  rcases h.2 with h | ⟨b, o, cap, rfl, hr⟩
  · exact .inl h
  · refine .inr ⟨b, o, cap, rfl, fun i hi j hj => ?_⟩
    have h1 := hr i hi j hj
    rw [List.getElem?_eq_getElem (by simpa [Rg.cells] using hj)] at h1 ⊢
    exact (g.cell (World.block_lt_of_cell? _ _ h1)).trans h1

theorem RowAt.below {w w' : World} {b o : Nat} {l : List Rg} (hr : RowAt w b o l) (g : Below w.heap.size w w') : RowAt w' b o l := fun i hi j hj => by
  have h1 := hr i hi j hj
  rw [List.getElem?_eq_getElem (by simpa [Rg.cells] using hj)] at h1 ⊢
  exact (g.cell (World.block_lt_of_cell? _ _ h1)).trans h1

/-- A walk over a new variable and a new row leaves all that was before. -/
theorem KR.below {w0 w w' : World} {ob : Nat} {v' : Value} (b : Below w0.heap.size w0 w) (hob : w0.heap.size ≤ ob) (k : KR ob (.slice none 0 0) w v' w') : Below w0.heap.size w0 w' :=
  ⟨k.os.trans b.os, k.tape.trans b.tape, k.output.trans b.output, Nat.le_trans b.size k.size, fun j hj => (k.block j (Nat.lt_of_lt_of_le hj b.size) (by omega) (by simp [Value.ownBlock])).trans (b.block j hj)⟩

theorem info4 : ∃ i, Tryd.prog.info? 4 = some i ∧ i.zero = some (.bool false) ∧ i.size = 1 ∧ i.bytes = 1 := info_parts (by kernel_rfl)

theorem makeB (n : Nat) (hn : n ≤ 1048576) (W : World) : (Instr.makeSlice 63 (.int .i64 n) (.int .i64 n)).run Tryd.prog W = .ok (.slice (some ⟨W.heap.size, 0, none⟩) n n) (W.alloc (.cells (madeCells #[.bool false] n) 4)) := by
  obtain ⟨i, hi, hz, hs, hb⟩ := info4
  have h := run_make (P := Tryd.prog) W 63 4 i _ Tryd.underlying63 hi hz .i64 .i64 n n (by omega) (by omega) (by rw [hb]; omega) (by omega)
  rw [h, hs]
  simp [Value.cells]

/-- The marks: all bools; those of the members of l's first k are true. -/
def Marks (cs : Array Value) (es : List Rg) (p : Rg → Prop) : Prop := cs.size = es.length ∧ (∀ i, i < es.length → ∃ b : Bool, cs[i]? = some (.bool b)) ∧ ∀ i (h : i < es.length), p es[i] → cs[i]? = some (.bool true)

theorem marks0 (es : List Rg) : Marks (madeCells #[.bool false] es.length) es (fun _ => False) := by
  refine ⟨size_madeCells _ _, fun i hi => ?_, fun i h hf => hf.elim⟩
  refine ⟨false, ?_⟩
  rw [← Array.getElem?_toList, toList_madeCells_one]
  simp [hi]

theorem Marks.set {cs : Array Value} {es : List Rg} {p : Rg → Prop} (h : Marks cs es p) {j : Nat} (hj : j < es.length) (q : Rg → Prop) (hq : ∀ i (h : i < es.length), q es[i] → p es[i] ∨ i = j) : Marks (cs.setIfInBounds j (.bool true)) es q := by
  obtain ⟨h1, h2, h3⟩ := h
  refine ⟨by simpa using h1, fun i hi => ?_, fun i hi hqi => ?_⟩
  · by_cases hij : j = i
    · subst hij
      exact ⟨true, by rw [Array.getElem?_setIfInBounds_self_of_lt (by omega)]⟩
    · rw [Array.getElem?_setIfInBounds_ne hij]
      exact h2 i hi
  · by_cases hij : j = i
    · subst hij
      rw [Array.getElem?_setIfInBounds_self_of_lt (by omega)]
    · rw [Array.getElem?_setIfInBounds_ne hij]
      rcases hq i hi hqi with h | h
      · exact h3 i hi h
      · exact absurd h.symm hij
end Go.Proofs.Qxb6609544aDoor
