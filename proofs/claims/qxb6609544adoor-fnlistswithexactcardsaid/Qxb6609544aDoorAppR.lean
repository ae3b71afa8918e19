import Derived.Test.Qxb6609544aDoorOut
namespace Go.Proofs.Qxb6609544aDoor
open Go.RowKit Go.Sort Go.Deep

theorem info37 : ∃ i, Tryd.prog.info? 37 = some i ∧ i.zero = some (.agg #[.int .u8 0, .int .u8 0, .int .u8 0, .int .u8 0, .int .u8 0, .int .u8 0, .int .u8 0, .int .u8 0]) ∧ i.size = 8 ∧ i.bytes = 8 := info_parts (by kernel_rfl)

theorem cells_one (x : Rg) : ∀ u ∈ x.cells, u.oneCell' = true := by
  intro u hu
  simp only [Rg.cells, List.mem_cons, List.not_mem_nil, or_false] at hu
  rcases hu with rfl | rfl | rfl | rfl | rfl | rfl | rfl | rfl <;> rfl

/-- *out = append(*out, x). -/
theorem appOut {w : World} {B ob : Nat} {v : Value} {l : List Rg} (h : OutAt w B ob v l) (hl : l.length + 1 ≤ 1048577) (x : Rg) : ∃ v2 w7,
    (Builtin.append_ #[22, 22] 22 #[v, .slice (some ⟨w.heap.size, 0, none⟩) 1 1]).run Tryd.prog ((w.alloc (.cells x.cells.toArray 37)).drew) = .ok v2 w7 ∧
    w7.cell? ⟨ob, 0, none⟩ = some v ∧ w7.frozen? ⟨ob, 0, none⟩ = false ∧ (∃ pa na ca, v2 = .slice pa na ca) ∧ OutAt (w7.setCell ⟨ob, 0, none⟩ v2) B ob v2 (l ++ [x]) ∧ KR ob v w v2 (w7.setCell ⟨ob, 0, none⟩ v2) := by
  obtain ⟨i, hi, hz, hs, hb⟩ := info37
  have g0 : Gr w ((w.alloc (.cells x.cells.toArray 37)).drew) := ((Gr.refl w).alloc _).drew
  obtain ⟨o1, o2, o3⟩ := h.gr g0
  have hnew : ((w.alloc (.cells x.cells.toArray 37)).drew).heap[w.heap.size]? = some (.cells x.cells.toArray 37 (0, 0)) := new1 w _
  obtain ⟨v2, w7, hrun, own, gb, hne, hob⟩ := run_append_own_at (P := Tryd.prog) ((w.alloc (.cells x.cells.toArray 37)).drew) B 22 22 37 i _ 8 8 Tryd.underlying22 hi hz hs hb rfl (by decide) v l.length (flatR l) o2 ⟨w.heap.size, 0, none⟩ 1 1 x.cells rfl (fun j u hu => by
      have hadd : (⟨w.heap.size, 0, none⟩ : Addr).add j = ⟨w.heap.size, j, none⟩ := by unfold Addr.add; split <;> simp_all
      rw [hadd, (blkC hnew).1 j]
      simpa using hu) (cells_one x) (by unfold maxLen; omega) (by omega) o3
  have hvo := (h.new (Nat.le_refl w.heap.size)).1
  have hobl : ob < w.heap.size := ndL h.1
  have hov : some ob ≠ v.ownBlock := by
    intro e
    rcases h.2.1.2 with ⟨rfl, _⟩ | ⟨g, cap, cur, rfl, _, hg, _⟩
    · simp [Value.ownBlock] at e
    · simp only [Value.ownBlock, Option.some.injEq] at e
      subst e
      have := h.1
      rw [hg] at this
      have := Option.some.inj this
      injection this with _ e
      exact absurd e (by decide)
  have hb7 : w7.heap[ob]? = some (.cells #[v] 22 (0, 0)) := (gb.block ob (ndL o1) hov).trans o1
  have hov2 : v2.ownBlock ≠ some ob := by
    rcases hob with e | e
    · rw [e]; exact fun h => hov h.symm
    · rw [e]
      intro h2
      have hsz : ((w.alloc (.cells x.cells.toArray 37)).drew).heap.size = w.heap.size + 1 := by simp [World.drew]
      rw [hsz] at h2
      injection h2 with h2
      omega
  have hset : w7.grownBy (w7.setCell ⟨ob, 0, none⟩ v2) (some ob) := grownBy_setCells ob [v2] 0 w7
  refine ⟨v2, w7, hrun, (blkC hb7).1 0, (blkC hb7).2 0, ?_, ⟨?_, ?_, ?_⟩, ?_⟩
  · rcases own.2 with ⟨rfl, _⟩ | ⟨_, _, _, rfl, _⟩ <;> exact ⟨_, _, _, rfl⟩
  · have := Lib.heap_setCell_same hb7 (i := 0) v2
    simpa using this
  · have := own.kept hset (Or.inr hov2)
    rw [flatR_app]
    simpa [flatR] using this
  · exact Nat.le_trans o3 (Nat.le_trans gb.size hset.size)
  · refine ⟨hset.os.trans (gb.os.trans g0.1.os), hset.tape.trans (gb.tape.trans g0.1.tape), hset.output.trans (gb.output.trans g0.1.output), Nat.le_trans g0.size (Nat.le_trans gb.size hset.size), fun k hk h1 h2 => ?_, ?_⟩
    · have hk1 := Nat.lt_of_lt_of_le hk g0.size
      exact (hset.block k (Nat.lt_of_lt_of_le hk1 gb.size) (by simpa using h1)).trans ((gb.block k hk1 h2).trans (g0.1.block k hk))
    · rcases hob with e | e
      · exact Or.inl e
      · right
        intro k hk
        rw [e] at hk
        injection hk with hk
        have := g0.size
        omega
end Go.Proofs.Qxb6609544aDoor
