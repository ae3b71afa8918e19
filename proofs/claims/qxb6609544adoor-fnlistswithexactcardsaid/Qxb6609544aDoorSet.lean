import Derived.Test.Qxb6609544aDoorBuild
import Derived.Test.Qxb6609544aDoorPlain
namespace Go.Proofs.Qxb6609544aDoor
open Go.RowKit Go.Sort Go.Deep

/-- A sound tree of the ranges l. -/
def SetOf (t : TT) (l : List Rg) : Prop := (∀ r, r ∈ els t ↔ r ∈ l) ∧ (els t).Pairwise (fun x y => x.key < y.key) ∧ Good t ∧ Bal t

theorem vOf (l : List Rg) (hok : ∀ r ∈ l, r.ok) : ∃ lv : List VRg, lv.map (·.1) = l := ⟨l.pmap Subtype.mk hok, by simp [List.map_pmap]⟩

set_option maxHeartbeats 2000000 in
theorem newSet (pz : Addr) (g n : Nat) (l : List Rg) (hn : l.length = n) (hn2 : n ≤ 1048576) (hok : ∀ r ∈ l, r.ok) (w : World) (hz : Zs pz w) (hg : w.heap[g]? = some (.cells (flatE pz l).toArray 49 (0, 0))) :
    Calls Tryd.prog 26 #[.slice (some ⟨g, 0, none⟩) n n] w fun e w' => ∃ t : TT, e = .returned (.agg #[t.ptr]) ∧ SetOf t l ∧ InT pz w' t ∧ Below w.heap.size w w' := by
  have hgl := ndL hg
  have h1l := World.block_lt_of_cell? _ _ hz.2
  simp only at h1l
  have B0 : Below w.heap.size w (w.alloc (.cells #[.pointer none] 33)) := (Below.refl _ w).alloc (Nat.le_refl _) _
  have hg0 := (B0.block g hgl).trans hg
  have hs0 : (w.alloc (.cells #[.pointer none] 33)).heap.size = w.heap.size + 1 := by simp
  have c0 := cloneE pz g n l hn hn2 _ hg0
  have HN := hide hn
  have HO := hide hok
  have HZ := hide hz
  have hb0 := new1 w (.cells #[.pointer none] 33)
  clear hn hok hz hg hg0
  go_enter Tryd.func26, Tryd.ntmps26
  go_wp2_with fail
  refine c0.mono ?_
  rintro e w1 ⟨g', cap, rfl, own, B1, hg1⟩
  rw [hs0] at B1
  have hbb := (B1.block w.heap.size (by omega)).trans hb0
  have hge := (own.lt g' rfl).1
  rw [hs0] at hge
  have hcap : n ≤ cap := by
    rcases own.2 with ⟨e, _⟩ | ⟨_, _, _, e, _, _, h, _⟩
    · simp at e
    · injection e with _ _ e3
      omega
  obtain ⟨he, hf⟩ := entAt_of HN.out own
  have B2 := hide (B0.trans (B1.mono (Nat.le_succ _)))
  obtain ⟨lv, hlv⟩ := vOf l HO.out
  rw [← hlv] at he
  have S := hide (sortE pz g' cap lv n (by have := HN.out; rw [← hlv] at this; simpa using this) hn2 w1 (HZ.out.below B2.out) (by omega) hg1 he hf)
  clear own he hf c0 B0 B1
  go_wp2_with fail
  refine S.out.mono ?_
  clear S
  rintro e w2 ⟨rfl, lv', hp, hs, he, hf, G2⟩
  have hlen : (lv'.map (·.1)).length = n := by
    have := HN.out
    rw [← hlv] at this
    simpa [hp.length_eq] using this
  have hbb2 := (G2.block w.heap.size (by omega) (by simp; omega)).trans hbb
  have B3 := hide (B2.out.grown G2 B2.out.size (fun k hk => by simp at hk; omega))
  have S := hide (compactE pz g' cap n (lv'.map (·.1)) hlen hn2 hcap (fun r hr => by
    obtain ⟨x, _, rfl⟩ := List.mem_map.1 hr
    exact x.2) w2 he hf)
  have hw2 := G2.size
  clear he hf G2
  go_wp2_with fail
  refine S.out.mono ?_
  clear S
  rintro e w3 ⟨rfl, he, G3⟩
  have hbb3 := (G3.block w.heap.size (by omega) (by simp; omega)).trans hbb2
  have B4 := hide (B3.out.grown G3 B3.out.size (fun k hk => by simp at hk; omega))
  have hcl := cpt_len (lv'.map (·.1))
  have F := hide (cpt_facts (lv'.map (·.1)) (fun r hr => by
    obtain ⟨x, _, rfl⟩ := List.mem_map.1 hr
    exact x.2) (by rw [List.pairwise_map]; exact hs))
  have S := hide (buildE pz (cpt (lv'.map (·.1))).length g' 0 cap (cpt (lv'.map (·.1))) rfl (by omega) (by omega) w3 (HZ.out.below B4.out) he)
  have hw3 := G3.size
  have M : Hid (∀ r, r ∈ lv'.map (·.1) ↔ r ∈ l) := fun r => by
    rw [← hlv]
    exact (hp.map (·.1)).mem_iff
  generalize cpt (lv'.map (·.1)) = l3 at *
  generalize hl3 : l3.length = n3 at *
  clear he G3 hp hs hlv hlen
  go_wp2_with fail
  refine S.out.mono ?_
  clear S
  rintro e w4 ⟨t, rfl, e4, g4, b4, i4, G4⟩
  have hbb4 := G4.blk hbb3
  obtain ⟨kc, kf⟩ := blkC hbb4
  have kc0 := kc 0
  have kf0 := kf 0
  have I5 := hide (fun v => i4.off (by decide) hbb4 0 v)
  have G5 := hide (fun v => (B4.out.trans (G4.1.mono B4.out.size)).setCell (p := ⟨w.heap.size, 0, none⟩) (Nat.le_refl _) v)
  have SS : Hid (SetOf t l) := ⟨fun r => by rw [e4, F.out.1, M.out], by rw [e4]; exact F.out.2, g4, b4⟩
  obtain ⟨p, hp⟩ := ptrE t
  have HP := hide hp
  rw [hp]
  clear hp
  clear kc kf i4 G4 e4 g4 b4 F M
  go_wp2
  have hc := World.cell?_setCell_same _ _ (.pointer p) (show w4.cell? ⟨w.heap.size, 0, none⟩ = some (.pointer none) from kc0)
  exact bodyPost_ret (v := .agg #[.pointer p]) (by simp [results, Tryd.results26, go_sem, hc]) rfl ⟨t, by rw [HP.out], SS.out, I5.out _, G5.out _⟩
end Go.Proofs.Qxb6609544aDoor
