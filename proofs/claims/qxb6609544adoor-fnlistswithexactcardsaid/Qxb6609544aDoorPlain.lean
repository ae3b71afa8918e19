import Derived.Test.Qxb6609544aDoorComp2
namespace Go.Proofs.Qxb6609544aDoor
open Go.RowKit Go.Sort Go.Lib

/-- What slices.Compact leaves of a sorted row: the same members, strictly increasing. -/
theorem cpt_facts (l : List Rg) (hok : ∀ r ∈ l, r.ok) (hs : l.Pairwise (fun x y => x.key ≤ y.key)) : (∀ r, r ∈ cpt l ↔ r ∈ l) ∧ (cpt l).Pairwise (fun x y => x.key < y.key) := by
  letI := inhR
  letI := decR
  have hget : ∀ j (h : j < l.length), l.toArray[j]! = l[j] := fun j h => by rw [getElem!_pos l.toArray j (by simpa using h)]; simp
  have main : ∀ m, m ≤ l.length → (∀ r, r ∈ compactUpTo l.toArray m ↔ ∃ j, ∃ h : j < l.length, j < m ∧ l[j] = r) ∧ (compactUpTo l.toArray m).Pairwise (fun x y => x.key < y.key) := by
    intro m
    induction m with
    | zero => exact fun _ => ⟨fun r => by simp [compactUpTo], by simp [compactUpTo]⟩
    | succ m ih =>
      intro hm
      obtain ⟨h1, h2⟩ := ih (by omega)
      have hml : m < l.length := by omega
      rw [compactUpTo_succ]
      by_cases hk : keeps l.toArray m = true
      · rw [if_pos hk, hget m hml]
        refine ⟨fun r => ?_, ?_⟩
        · rw [List.mem_append, h1]
          constructor
          · rintro (⟨j, h, hj, e⟩ | h)
            · exact ⟨j, h, by omega, e⟩
            · exact ⟨m, hml, by omega, (List.mem_singleton.1 h).symm⟩
          · rintro ⟨j, h, hj, e⟩
            by_cases hjm : j = m
            · subst hjm; exact Or.inr (by rw [e]; simp)
            · exact Or.inl ⟨j, h, by omega, e⟩
        · rw [List.pairwise_append]
          refine ⟨h2, by simp, fun x hx y hy => ?_⟩
          obtain ⟨j, h, hj, rfl⟩ := (h1 x).1 hx
          rw [List.mem_singleton.1 hy]
          have hle : ∀ i (hi : i < l.length), i < m → l[i].key ≤ l[m].key := fun i hi him => List.pairwise_iff_getElem.1 hs i m hi hml him
          have hm0 : 0 < m := by omega
          have hne : l[m] ≠ l[m - 1] := by
            unfold keeps at hk
            rw [hget m hml, hget (m - 1) (by omega)] at hk
            simp at hk
            rcases hk with hk | hk
            · omega
            · exact hk
          have hlt : l[m - 1].key < l[m].key := by
            have a := hle (m - 1) (by omega) (by omega)
            rcases Nat.lt_or_ge l[m - 1].key l[m].key with h | h
            · exact h
            · exact absurd (key_inj (hok _ (List.getElem_mem _)) (hok _ (List.getElem_mem _)) (by omega)) hne
          by_cases hj1 : j = m - 1
          · subst hj1; exact hlt
          · have := List.pairwise_iff_getElem.1 hs j (m - 1) h (by omega) (by omega)
            omega
      · rw [if_neg hk, List.append_nil]
        refine ⟨fun r => ?_, h2⟩
        rw [h1]
        unfold keeps at hk
        rw [hget m hml, hget (m - 1) (by omega)] at hk
        simp at hk
        obtain ⟨hm0, he⟩ := hk
        constructor
        · rintro ⟨j, h, hj, e⟩
          exact ⟨j, h, by omega, e⟩
        · rintro ⟨j, h, hj, e⟩
          by_cases hjm : j = m
          · subst hjm
            exact ⟨j - 1, by omega, by omega, by rw [← e, he]⟩
          · exact ⟨j, h, by omega, e⟩
  obtain ⟨h1, h2⟩ := main l.length (Nat.le_refl _)
  refine ⟨fun r => ?_, h2⟩
  have := h1 r
  unfold cpt
  rw [this]
  constructor
  · rintro ⟨j, h, _, rfl⟩; exact List.getElem_mem h
  · intro h
    obtain ⟨j, hj, e⟩ := List.getElem_of_mem h
    exact ⟨j, hj, hj, e⟩

theorem cpt_len (l : List Rg) : (cpt l).length ≤ l.length := by
  letI := inhR
  letI := decR
  unfold cpt compactUpTo
  rw [List.length_map]
  exact Nat.le_trans (List.length_filter_le _ _) (by simp)
end Go.Proofs.Qxb6609544aDoor
