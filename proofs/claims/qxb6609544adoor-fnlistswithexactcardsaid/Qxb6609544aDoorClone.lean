import Derived.Test.Qxb6609544aDoorSort
import Derived.Lib.LazyBuf
import Derived.Maps.AppendAt
namespace Go.Proofs.Qxb6609544aDoor
open Go.RowKit Go.Sort

theorem flatE_one (pz : Addr) (l : List Rg) : ∀ u ∈ flatE pz l, u.oneCell' = true := by
  intro u hu
  simp only [flatE, List.mem_flatMap] at hu
  obtain ⟨r, _, hr⟩ := hu
  simp only [Rg.ent, List.mem_cons, List.not_mem_nil, or_false] at hr
  rcases hr with rfl | rfl | rfl | rfl | rfl | rfl <;> rfl

set_option maxHeartbeats 2000000 in
theorem cloneE (pz : Addr) (g n : Nat) (l : List Rg) (hn : l.length = n) (hn2 : n ≤ 1048576) (w : World) (hg : w.heap[g]? = some (.cells (flatE pz l).toArray 49 (0, 0))) :
    Calls Tryd.prog 35 #[.slice (some ⟨g, 0, none⟩) n n] w fun e w' => ∃ g' cap, e = .returned (.slice (some ⟨g', 0, none⟩) n cap) ∧ w'.ownsRow w.heap.size 49 6 (.slice (some ⟨g', 0, none⟩) n cap) n (flatE pz l) ∧ Below w.heap.size w w' ∧ g' < w'.heap.size := by
  obtain ⟨i0, hi, hz0, hz1, hz2⟩ := info49
  have hnil := fun W => run_eql_slice_nil (P := Tryd.prog) W 27 49 (some ⟨g, 0, none⟩) n n Tryd.underlying27
  have hl := flatE_len pz l
  rw [hn] at hl
  have hone := flatE_one pz l
  have hgl : g < w.heap.size := (Array.getElem?_eq_some_iff.1 hg).1
  have hcell : ∀ j u, (flatE pz l)[j]? = some u → (w.alloc (.cells #[] 49)).cell? ((⟨g, 0, none⟩ : Addr).add j) = some u := fun j u hu => by
    have hadd : (⟨g, 0, none⟩ : Addr).add j = ⟨g, j, none⟩ := by unfold Addr.add; split <;> simp_all
    rw [hadd]
    have := cell_of_row w g j _ 49 (0, 0) hg
    rw [World.cell?_alloc_past (w := w) _ g j hgl, this]
    simpa using hu
  generalize flatE pz l = xs at *
  have HL := hide hl
  have HO := hide hone
  have HC := hide hcell
  clear hl hone hcell hn hg
  go_enter Tryd.func35, Tryd.ntmps35
  go_wp2_with (at_builtin; refine wpList_append_own_at _ rfl _ _ 27 rfl w.heap.size 49 i0 (.agg #[.int .u64 0, .int .u64 0, .pointer none, .int .u64 0, .int .u64 0, .pointer none]) 6 48 Tryd.underlying27 hi hz0 hz1 hz2 rfl (by decide) _ 0 [] rfl ?c0 ⟨g, 0, none⟩ n n xs rfl HL.out HC.out HO.out ?c1 ?c2 ?c3 ?_)
  case c0 => exact World.ownsRow_lit w #[] 0 (Nat.le_refl _) (by unfold maxLen; omega) rfl
  case c1 => unfold maxLen; omega
  case c2 => omega
  case c3 => simp
  intro v' w' hown hgrow hne hat
  obtain ⟨g', cap, rfl⟩ : ∃ g' cap, v' = .slice (some ⟨g', 0, none⟩) n cap := by
    rcases hown.2 with ⟨e, _⟩ | ⟨g', cap, cur, e, _⟩
    · exact absurd e hne
    · exact ⟨g', cap, e⟩
  have hlt := (hown.lt g' rfl).2
  clear hne hat
  go_wp2
  go_ret
  refine ⟨g', cap, rfl, hown, ?_, hlt⟩
  exact ((Below.refl _ w).alloc (Nat.le_refl _) _).grown hgrow (by simp) (fun k hk => by simp [Value.ownBlock] at hk; omega)

/-- What a row of entries owns, cell by cell. -/
theorem entAt_of {pz : Addr} {w : World} {B g n cap : Nat} {l : List Rg} (hn : l.length = n) (h : w.ownsRow B 49 6 (.slice (some ⟨g, 0, none⟩) n cap) n (flatE pz l)) : EntAt pz w g 0 l ∧ Free w g := by
  refine ⟨fun i hi j hj => ?_, fun o => ?_⟩
  · have h1 := h.cellAt (i * 6 + j) (by omega)
    rw [flatE_at pz l i hi j hj] at h1
    rw [Nat.zero_add]
    exact h1
  · exact h.frozenAt o
end Go.Proofs.Qxb6609544aDoor
