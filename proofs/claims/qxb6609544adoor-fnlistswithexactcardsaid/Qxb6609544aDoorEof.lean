import Derived.Test.Qxb6609544aDoorEnt
import Derived.Test.Qxb6609544aDoorIn2
import Derived.OwnWalk
import Derived.Lib.BufferMore
namespace Go.Proofs.Qxb6609544aDoor
open Go.RowKit Go.Sort

/-- The cells of entries. -/
def flatE (pz : Addr) (l : List Rg) : List Value := l.flatMap fun r => r.ent pz

theorem flatE_len (pz : Addr) : ∀ l : List Rg, (flatE pz l).length = l.length * 6
  | [] => rfl
  | r :: l => by have := flatE_len pz l; simp only [flatE, List.flatMap_cons, List.length_append, List.length_cons] at *; rw [this]; simp [Rg.ent]; omega

theorem flatE_at (pz : Addr) : ∀ (l : List Rg) (i : Nat) (hi : i < l.length) (j : Nat), j < 6 → (flatE pz l)[i * 6 + j]? = (l[i].ent pz)[j]?
  | r :: l, 0, _, j, hj => by
    simp only [flatE, List.flatMap_cons, Nat.zero_mul, Nat.zero_add, List.getElem_cons_zero]
    rw [List.getElem?_append_left (by simpa [Rg.ent] using hj)]
  | r :: l, i + 1, hi, j, hj => by
    have := flatE_at pz l i (by simpa using hi) j hj
    simp only [flatE, List.flatMap_cons, List.getElem_cons_succ] at *
    rw [List.getElem?_append_right (by simp [Rg.ent]; omega), ← this]
    congr 1
    simp [Rg.ent]; omega

theorem info49 : ∃ i, Tryd.prog.info? 49 = some i ∧ i.zero = some (.agg #[.int .u64 0, .int .u64 0, .pointer none, .int .u64 0, .int .u64 0, .pointer none]) ∧ i.size = 6 ∧ i.bytes = 48 := info_parts (by kernel_rfl)

/-- The zero entry's cells. -/
def zeroE : List Value := [.int .u64 0, .int .u64 0, .pointer none, .int .u64 0, .int .u64 0, .pointer none]

/-- Six cells of a row, set one by one. -/
def put6 (cs : Array Value) (p : Nat) (v0 v1 v2 v3 v4 v5 : Value) : Array Value :=
  (((((cs.setIfInBounds p v0).setIfInBounds (p + 1) v1).setIfInBounds (p + 2) v2).setIfInBounds (p + 3) v3).setIfInBounds (p + 4) v4).setIfInBounds (p + 5) v5

theorem put6_size (cs : Array Value) (p : Nat) (v0 v1 v2 v3 v4 v5 : Value) : (put6 cs p v0 v1 v2 v3 v4 v5).size = cs.size := by simp [put6]

theorem put6_out (cs : Array Value) (p q : Nat) (v0 v1 v2 v3 v4 v5 : Value) (h : q < p ∨ p + 6 ≤ q) : (put6 cs p v0 v1 v2 v3 v4 v5)[q]? = cs[q]? := by
  unfold put6
  rw [Array.getElem?_setIfInBounds_ne (by omega), Array.getElem?_setIfInBounds_ne (by omega), Array.getElem?_setIfInBounds_ne (by omega), Array.getElem?_setIfInBounds_ne (by omega), Array.getElem?_setIfInBounds_ne (by omega), Array.getElem?_setIfInBounds_ne (by omega)]

theorem put6_in (cs : Array Value) (p j : Nat) (v0 v1 v2 v3 v4 v5 : Value) (h : p + 6 ≤ cs.size) (hj : j < 6) : (put6 cs p v0 v1 v2 v3 v4 v5)[p + j]? = [v0, v1, v2, v3, v4, v5][j]? := by
  unfold put6
  have hjs : j = 0 ∨ j = 1 ∨ j = 2 ∨ j = 3 ∨ j = 4 ∨ j = 5 := by omega
  rcases hjs with rfl | rfl | rfl | rfl | rfl | rfl <;> simp [Array.getElem?_setIfInBounds] <;> omega

theorem set6 {w : World} {b : Nat} {cs : Array Value} {t : TypeId} (h : w.heap[b]? = some (.cells cs t (0, 0))) (p : Nat) (v0 v1 v2 v3 v4 v5 : Value) :
    ((((((w.setCell ⟨b, p, none⟩ v0).setCell ⟨b, p + 1, none⟩ v1).setCell ⟨b, p + 2, none⟩ v2).setCell ⟨b, p + 3, none⟩ v3).setCell ⟨b, p + 4, none⟩ v4).setCell ⟨b, p + 5, none⟩ v5).heap[b]? = some (.cells (put6 cs p v0 v1 v2 v3 v4 v5) t (0, 0)) := by
  unfold put6
  exact Lib.heap_setCell_same (Lib.heap_setCell_same (Lib.heap_setCell_same (Lib.heap_setCell_same (Lib.heap_setCell_same (Lib.heap_setCell_same h v0) v1) v2) v3) v4) v5

theorem Gr.set6 {a w : World} (h : Gr a w) {b : Nat} (hb : a.heap.size ≤ b) (p : Nat) (v0 v1 v2 v3 v4 v5 : Value) :
    Gr a ((((((w.setCell ⟨b, p, none⟩ v0).setCell ⟨b, p + 1, none⟩ v1).setCell ⟨b, p + 2, none⟩ v2).setCell ⟨b, p + 3, none⟩ v3).setCell ⟨b, p + 4, none⟩ v4).setCell ⟨b, p + 5, none⟩ v5) :=
  (((((h.setCell hb _).setCell hb _).setCell hb _).setCell hb _).setCell hb _).setCell hb _

theorem flat_of (pz : Addr) (l : List Rg) (cs : Array Value) (hs : cs.size = l.length * 6) (h : ∀ i (h : i < l.length), ∀ j, j < 6 → cs[i * 6 + j]? = (l[i].ent pz)[j]?) : cs = (flatE pz l).toArray := by
  apply Array.ext_getElem?
  intro q
  have et : (flatE pz l).toArray[q]? = (flatE pz l)[q]? := by simp
  rw [et]
  by_cases hq : q < l.length * 6
  · have h1 := h (q / 6) (by omega) (q % 6) (by omega)
    have h2 := flatE_at pz l (q / 6) (by omega) (q % 6) (by omega)
    have e : q / 6 * 6 + q % 6 = q := by omega
    rw [e] at h1 h2
    rw [h1, h2]
  · rw [Array.getElem?_eq_none (by omega), List.getElem?_eq_none (by rw [flatE_len]; omega)]

theorem makeE (n : Nat) (hn : n ≤ 1048576) (W : World) : (Instr.makeSlice 27 (.int .i64 n) (.int .i64 n)).run Tryd.prog W = .ok (.slice (some ⟨W.heap.size, 0, none⟩) n n) (W.alloc (.cells (madeCells zeroE.toArray (n * 6)) 49)) := by
  obtain ⟨i, hi, hz, hs, hb⟩ := info49
  have h := run_make (P := Tryd.prog) W 27 49 i _ Tryd.underlying27 hi hz .i64 .i64 n n (by omega) (by omega) (by rw [hb]; omega) (by omega)
  rw [h, hs]
  simp [Value.cells, zeroE]

set_option maxHeartbeats 4000000 in
theorem entriesOf (pz : Addr) (b o cap n : Nat) (l : List Rg) (hn : l.length = n) (hn2 : n ≤ 1048576) (hok : ∀ r ∈ l, r.ok) (w : World) (hr : RowAt w b o l) (hz : Zs pz w) :
    Calls Tryd.prog 10 #[.slice (some ⟨b, o, none⟩) n cap] w fun e w' => e = .returned (.slice (some ⟨w.heap.size, 0, none⟩) n n) ∧ w'.heap[w.heap.size]? = some (.cells (flatE pz l).toArray 49 (0, 0)) ∧ Gr w w' := by
  have hmk := makeE n hn2
  have HN := hide hn
  have HR := hide hr
  have HO := hide hok
  have HZ := hide hz
  clear hn hr hok hz
  go_enter Tryd.func10, Tryd.ntmps10
  go_wp2
  go_loopw [4] (fun vi wr => ∃ k : Nat, k ≤ n ∧ vi = .int .i64 k ∧ Gr w wr ∧ ∃ cs : Array Value, wr.heap[w.heap.size]? = some (.cells cs 49 (0, 0)) ∧ cs.size = n * 6 ∧ Hid (∀ i (h : i < l.length), i < k → ∀ j, j < 6 → cs[i * 6 + j]? = (l[i].ent pz)[j]?)) (fun vi _ => n - (intOf vi).toNat)
  case atStart => exact ⟨0, by omega, rfl, (Gr.refl w).alloc _, _, new1 w _, size_madeCells _ _, fun i _ h => by omega⟩
  case round =>
    obtain ⟨k, hk, rfl, hg, cs, hbk, hcs, hrest⟩ := hrel
    by_cases hlt : k < n
    · have hkl : k < l.length := by have := HN.out; omega
      have hat := (HR.out.gr hg).at k hkl
      have hb := (HR.out.gr hg).lt k hkl
      have hok := HO.out l[k] (List.getElem_mem hkl)
      obtain ⟨r, hrk⟩ : ∃ r, l[k] = r := ⟨_, rfl⟩
      rw [hrk] at hat hok
      have HRK := hide hrk
      clear hrk
      obtain ⟨a0, a1, a2, a3, a4, a5, a6, a7⟩ := hat
      have c := hide (fun W (g : Gr w W) => entry4 r hok pz W (HZ.out.gr g))
      simp only [Ad.val, Rg.ent] at c
      clear hok
      obtain ⟨u0, e0⟩ : ∃ u, cs[k * 6]? = some u := ⟨_, Array.getElem?_eq_getElem (by omega)⟩
      obtain ⟨u1, e1⟩ : ∃ u, cs[k * 6 + 1]? = some u := ⟨_, Array.getElem?_eq_getElem (by omega)⟩
      obtain ⟨u2, e2⟩ : ∃ u, cs[k * 6 + 2]? = some u := ⟨_, Array.getElem?_eq_getElem (by omega)⟩
      obtain ⟨u3, e3⟩ : ∃ u, cs[k * 6 + 3]? = some u := ⟨_, Array.getElem?_eq_getElem (by omega)⟩
      obtain ⟨u4, e4⟩ : ∃ u, cs[k * 6 + 4]? = some u := ⟨_, Array.getElem?_eq_getElem (by omega)⟩
      obtain ⟨u5, e5⟩ : ∃ u, cs[k * 6 + 5]? = some u := ⟨_, Array.getElem?_eq_getElem (by omega)⟩
      go_wp2
      go_region_with (go_at_call 21; refine (c.out _ ?_).mono ?_; exact hg.drew; rintro e w1 ⟨rfl, g1⟩; have hbk1 := g1.blk hbk; obtain ⟨k1, k2⟩ := blkC hbk1)
      all_goals
        go_wp2
        go_roundw
        case rel =>
          refine ⟨k + 1, by omega, by go_num, (hg.drew.trans g1).set6 (Nat.le_refl _) _ _ _ _ _ _ _, _, set6 hbk1 _ _ _ _ _ _ _, by rw [put6_size]; exact hcs, fun i h hik j hj => ?_⟩
          by_cases hi : i < k
          · rw [put6_out _ _ _ _ _ _ _ _ _ (by omega)]
            exact hrest.out i h hi j hj
          · have : i = k := by omega
            subst this
            rw [put6_in _ _ _ _ _ _ _ _ _ (by omega) hj]
            have := HRK.out
            rw [this]
            rfl
        case measure => simp [intOf]; omega
    · go_wp2
      go_ret
      refine ⟨rfl, ?_, hg⟩
      rw [← flat_of pz l cs (by have := HN.out; omega) (fun i h j hj => hrest.out i h (by have := HN.out; omega) j hj)]
      exact hbk
end Go.Proofs.Qxb6609544aDoor
