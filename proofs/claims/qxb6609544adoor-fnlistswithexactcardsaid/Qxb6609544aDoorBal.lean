import Derived.Test.Qxb6609544aDoorBalB1
import Derived.Test.Qxb6609544aDoorBalA2
import Derived.Test.Qxb6609544aDoorBalB2
namespace Go.Proofs.Qxb6609544aDoor
open Go.RowKit Go.Sort Go.Deep

/-- balance: over two balanced trees that are out of balance by one at the most. -/
theorem balance72 (pz : Addr) (x : Rg) (l r : TT) (w : World) (hz : Zs pz w) (hl : InT pz w l) (hr : InT pz w r) (gl : Good l) (gr : Good r) (bl : Bal l) (br : Bal r) (nb : NB l r) (hcl : cnt l ≤ 500000) (hcr : cnt r ≤ 500000) :
    Calls Tryd.prog 72 #[l.ptr, .agg (x.ent pz).toArray, r.ptr] w fun e w' => Bald pz w w' x l r e := by
  by_cases h1 : 3 * (cnt l + 1) < cnt r + 1
  · cases r with
    | nil => simp only [cnt] at h1; omega
    | node b o n rl rr =>
      obtain ⟨y, s, a⟩ := n
      obtain rfl : o = 0 := hr.1
      by_cases h2 : cnt rl + 1 < 2 * (cnt rr + 1)
      · exact balA1 pz x y l rl rr b s a w hz hl hr gl gr bl br nb hcl hcr h1 h2
      · cases rl with
        | nil => simp only [cnt] at h2; omega
        | node bi oi ni il ir =>
          obtain ⟨z, si, ai⟩ := ni
          obtain rfl : oi = 0 := hr.2.2.1.1
          exact balA2 pz x y z l il ir rr b s bi si a ai w hz hl hr gl gr bl br nb hcl hcr h1 h2
  · by_cases h3 : 3 * (cnt r + 1) < cnt l + 1
    · cases l with
      | nil => simp only [cnt] at h3; omega
      | node b o n ll lr =>
        obtain ⟨y, s, a⟩ := n
        obtain rfl : o = 0 := hl.1
        by_cases h2 : cnt lr + 1 < 2 * (cnt ll + 1)
        · exact balB1 pz x y ll lr r b s a w hz hl hr gl gr bl br nb hcl hcr h3 h2
        · cases lr with
          | nil => simp only [cnt] at h2; omega
          | node bi oi ni il ir =>
            obtain ⟨z, si, ai⟩ := ni
            obtain rfl : oi = 0 := hl.2.2.2.1
            exact balB2 pz x y z r il ir ll b s bi si a ai w hz hl hr gl gr bl br nb hcl hcr h3 h2
    · exact balC pz x l r w hz hl hr gl gr bl br (by omega) (by omega) h1 h3
end Go.Proofs.Qxb6609544aDoor
