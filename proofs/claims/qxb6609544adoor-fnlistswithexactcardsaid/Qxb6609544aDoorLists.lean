import Derived.Test.Qxb6609544aDoorSet
namespace Go.Proofs.Qxb6609544aDoor
open Go.RowKit Go.Sort Go.Deep

/-- The lists that lie in block b: two roots. -/
def LsAt (w : World) (b : Nat) (p q : Value) : Prop := w.heap[b]? = some (.cells #[p, q] 59 (0, 0))

set_option maxHeartbeats 2000000 in
theorem newLists (pz : Addr) (g1 n1 : Nat) (l1 : List Rg) (hn1 : l1.length = n1) (hm1 : n1 ≤ 1048576) (hok1 : ∀ r ∈ l1, r.ok) (g2 n2 : Nat) (l2 : List Rg) (hn2 : l2.length = n2) (hm2 : n2 ≤ 1048576) (hok2 : ∀ r ∈ l2, r.ok)
    (w : World) (hz : Zs pz w) (hg1 : w.heap[g1]? = some (.cells (flatE pz l1).toArray 49 (0, 0))) (hg2 : w.heap[g2]? = some (.cells (flatE pz l2).toArray 49 (0, 0))) :
    Calls Tryd.prog 9 #[.slice (some ⟨g1, 0, none⟩) n1 n1, .slice (some ⟨g2, 0, none⟩) n2 n2] w fun e w' => ∃ (b : Nat) (t1 t2 : TT), e = .returned (.pointer (some ⟨b, 0, none⟩)) ∧ w.heap.size ≤ b ∧ LsAt w' b t1.ptr t2.ptr ∧ SetOf t1 l1 ∧ SetOf t2 l2 ∧ InT pz w' t1 ∧ InT pz w' t2 ∧ Below w.heap.size w w' := by
  have S1 := hide (newSet pz g1 n1 l1 hn1 hm1 hok1 w hz hg1)
  have S2 := hide (fun W (B : Below w.heap.size w W) => newSet pz g2 n2 l2 hn2 hm2 hok2 W (hz.below B) ((B.block g2 (ndL hg2)).trans hg2))
  clear hn1 hm1 hok1 hn2 hm2 hok2 hz hg1 hg2
  go_enter Tryd.func9, Tryd.ntmps9
  go_wp2_with fail
  refine S1.out.mono ?_
  rintro e w1 ⟨t1, rfl, s1, i1, B1⟩
  have S3 := hide (S2.out w1 B1)
  clear S1 S2
  have SS1 := hide s1
  have I1 := hide i1
  obtain ⟨p1, hp1⟩ := ptrE t1
  have HP1 := hide hp1
  rw [hp1]
  clear s1 i1 hp1
  go_wp2_with fail
  refine S3.out.mono ?_
  rintro e w2 ⟨t2, rfl, s2, i2, B2⟩
  have SS2 := hide s2
  have I2 := hide i2
  have I1' := hide (I1.out.below B2)
  have B3 := hide (B1.trans (B2.mono B1.size))
  obtain ⟨p2, hp2⟩ := ptrE t2
  have HP2 := hide hp2
  rw [hp2]
  clear s2 i2 hp2 I1 S3 B1 B2
  go_wp2
  go_ret
  refine ⟨w2.heap.size, t1, t2, rfl, B3.out.size, ?_, SS1.out, SS2.out, I1'.out.below ((Below.refl _ _).alloc (Nat.le_refl _) _), I2.out.below ((Below.refl _ _).alloc (Nat.le_refl _) _), B3.out.alloc B3.out.size _⟩
  rw [HP1.out, HP2.out]
  exact new1 w2 _
end Go.Proofs.Qxb6609544aDoor
