import Derived.Test.Qxb6609264aAuv
import Derived.Deep.RegionHeld3
namespace Go.Proofs.Qxb6609264a
open Go.RowKit

theorem own_ne {w : World} {B : Nat} {e : TypeId} {size n : Nat} {v : Value} {xs : List Value} (h : w.ownsRow B e size v n xs) : v.ownBlock ≠ some w.heap.size := fun hc => by
  have := (h.lt _ hc).2; omega

theorem Fr.ne {w w1 : World} {v v1 : Value} (h : Fr w w1 v v1) {b : Nat} (hb : b < w.heap.size) (hne : v.ownBlock ≠ some b) : v1.ownBlock ≠ some b := by
  rcases h.2 with e | ⟨k, e, hk⟩
  · rw [e]; exact hne
  · rw [e]; intro hc; cases hc; omega

/-- The bytes of two varints one behind the other. -/
def uv2 (x y : Nat) : List UInt8 := Lib.uvarint x ++ Lib.uvarint y

theorem uv2_cells (x y : Nat) (xs : List Value) : xs ++ Lib.byteCells (Lib.uvarint x) ++ Lib.byteCells (Lib.uvarint y) = xs ++ Lib.byteCells (uv2 x y) := by
  unfold uv2; rw [Lib.byteCells_append, List.append_assoc]

theorem uv2_len (x y n : Nat) : n + (Lib.uvarint x).length + (Lib.uvarint y).length = n + (uv2 x y).length := by
  unfold uv2; rw [List.length_append]; omega

set_option maxHeartbeats 1000000 in
theorem appendID (B n x y : Nat) (hx : x < 18446744073709551616) (hy : y < 18446744073709551616) (sv : Value) (xs : List Value) (w : World) (hown : w.ownsRow B 5 1 sv n xs) (hBw : B ≤ w.heap.size) (hlim : n + 20 ≤ 140737488355328) :
    Calls Try.prog 12 #[sv, .agg #[.int .u64 x, .int .u64 y]] w fun e w' => ∃ v', e = .returned v' ∧ w'.ownsRow B 5 1 v' (n + (uv2 x y).length) (xs ++ Lib.byteCells (uv2 x y)) ∧ Fr w w' sv v' := by
  have hl := Lib.uvarint_length64 hx
  have hne := own_ne hown
  go_enter Try.func12, Try.ntmps12
  go_wp2_with fail
  refine (auv14 B n x hx sv xs _ (by exact hown.alloc _) (by simp; omega) (by omega)).mono ?_
  rintro e w1 ⟨v1, rfl, h1, f1⟩
  have hc : w1.cell? ⟨w.heap.size, 1, none⟩ = some (.int .u64 y) := by
    rw [f1.cell _ _ (by simp) hne]; simp
  have hs := f1.1.size
  have hs2 : w.heap.size + 1 ≤ w1.heap.size := by simpa using hs
  go_wp2_with fail
  refine (auv14 B _ y hy v1 _ _ h1 (by omega) (by omega)).mono ?_
  rintro e w2 ⟨v2, rfl, h2, f2⟩
  go_wp2_with fail
  go_ret
  refine ⟨v2, rfl, ?_, ?_⟩
  · rw [uv2_cells, uv2_len] at h2; exact h2
  · exact ((Fr.refl w sv).alloc _).trans (f1.trans f2)

set_option maxHeartbeats 1000000 in
theorem appendTS (B n y : Nat) (t : Int) (hy : y < 18446744073709551616) (x : Nat) (hx : IntKind.u64.wrap t = x) (hx1 : x < 18446744073709551616) (sv : Value) (xs : List Value) (w : World) (hown : w.ownsRow B 5 1 sv n xs) (hBw : B ≤ w.heap.size) (hlim : n + 20 ≤ 140737488355328) :
    Calls Try.prog 13 #[sv, .agg #[.int .i64 t, .int .u64 y]] w fun e w' => ∃ v', e = .returned v' ∧ w'.ownsRow B 5 1 v' (n + (uv2 x y).length) (xs ++ Lib.byteCells (uv2 x y)) ∧ Fr w w' sv v' := by
  have hl := Lib.uvarint_length64 hx1
  have hne := own_ne hown
  go_enter Try.func13, Try.ntmps13
  go_wp2_with fail
  refine (auv14 B n x hx1 sv xs _ (by exact hown.alloc _) (by simp; omega) (by omega)).mono ?_
  rintro e w1 ⟨v1, rfl, h1, f1⟩
  have hc : w1.cell? ⟨w.heap.size, 1, none⟩ = some (.int .u64 y) := by
    rw [f1.cell _ _ (by simp) hne]; simp
  have hs := f1.1.size
  have hs2 : w.heap.size + 1 ≤ w1.heap.size := by simpa using hs
  go_wp2_with fail
  refine (auv14 B _ y hy v1 _ _ h1 (by omega) (by omega)).mono ?_
  rintro e w2 ⟨v2, rfl, h2, f2⟩
  go_wp2_with fail
  go_ret
  refine ⟨v2, rfl, ?_, ?_⟩
  · rw [uv2_cells, uv2_len] at h2; exact h2
  · exact ((Fr.refl w sv).alloc _).trans (f1.trans f2)

set_option maxHeartbeats 2000000 in
theorem appendBallot (B n x y : Nat) (hx : x < 18446744073709551616) (hy : y < 18446744073709551616) (sv : Value) (xs : List Value) (w : World) (hown : w.ownsRow B 5 1 sv n xs) (hBw : B ≤ w.heap.size) (hlim : n + 20 ≤ 140737488355328) :
    Calls Try.prog 11 #[sv, .agg #[.int .u64 x, .int .u64 y]] w fun e w' => ∃ v', e = .returned v' ∧ w'.ownsRow B 5 1 v' (n + (uv2 x y).length) (xs ++ Lib.byteCells (uv2 x y)) ∧ Fr w w' sv v' := by
  have hl := Lib.uvarint_length64 hx
  have hne := own_ne hown
  go_enter Try.func11, Try.ntmps11
  go_wp2_with fail
  go_region_held3 (fun w' => w'.cell? ⟨w.heap.size, 0, none⟩ = some (.int .u64 x) ∧ w'.cell? ⟨w.heap.size, 1, none⟩ = some (.int .u64 y)) (go_keep)
    (first
      | (go_at_call_of 14 sv; refine (auv14 B n x hx sv xs _ ?_ ?_ ?_).mono ?_; exact (hown.alloc _).drew; (simp; omega); omega; rintro e w1 ⟨v1, rfl, h1, f1⟩; have hc0 : w1.cell? ⟨w.heap.size, 0, none⟩ = some (.int .u64 x) := (f1.cell _ _ (by simp) hne).trans (by simp); have hc1 : w1.cell? ⟨w.heap.size, 1, none⟩ = some (.int .u64 y) := (f1.cell _ _ (by simp) hne).trans (by simp); have hs2 : w.heap.size + 1 ≤ w1.heap.size := (by simpa using f1.1.size); have hne1 : v1.ownBlock ≠ some w.heap.size := Fr.ne f1 (by simp) hne)
      | (go_at_call_of 14 v1; refine (auv14 B _ y hy v1 _ _ h1 ?_ ?_).mono ?_; omega; omega; rintro e w2 ⟨v2, rfl, h2, f2⟩; have hc2 : w2.cell? ⟨w.heap.size, 0, none⟩ = some (.int .u64 x) := (f2.cell _ _ (by omega) hne1).trans hc0; have hc3 : w2.cell? ⟨w.heap.size, 1, none⟩ = some (.int .u64 y) := (f2.cell _ _ (by omega) hne1).trans hc1))
  go_wp2
  go_ret
  refine ⟨v2, rfl, ?_, ?_⟩
  · rw [uv2_cells, uv2_len] at h2; exact h2
  · exact ((Fr.refl w sv).alloc _).drew.trans (f1.trans f2)

set_option maxHeartbeats 2000000 in
theorem appendDecision (B n y : Nat) (o : Int) (t : Int) (hy : y < 18446744073709551616) (x : Nat) (hx : IntKind.u64.wrap t = x) (hx1 : x < 18446744073709551616) (sv : Value) (xs : List Value) (w : World) (hown : w.ownsRow B 5 1 sv n xs) (hBw : B ≤ w.heap.size) (hlim : n + 21 ≤ 140737488355328) :
    Calls Try.prog 10 #[sv, .agg #[.int .u8 o, .int .i64 t, .int .u64 y]] w fun e w' => ∃ v', e = .returned v' ∧ w'.ownsRow B 5 1 v' (n + 1 + (uv2 x y).length) (xs ++ [.int .u8 o] ++ Lib.byteCells (uv2 x y)) ∧ Fr w w' sv v' := by
  have hne := own_ne hown
  obtain ⟨i0, hi, hz0, hz1, hz2⟩ := info5
  go_enter Try.func10, Try.ntmps10
  go_wp2_with fail
  go_region_held3 (fun w' => w'.cell? ⟨w.heap.size, 0, none⟩ = some (.int .u8 o) ∧ w'.cell? ⟨w.heap.size, 1, none⟩ = some (.int .i64 t) ∧ w'.cell? ⟨w.heap.size, 2, none⟩ = some (.int .u64 y)) (go_keep)
    (first
      | (refine step_append_lies _ rfl _ _ 23 rfl B 5 i0 (.int .u8 0) 1 1 Try.underlying23 hi hz0 hz1 hz2 rfl (by decide) sv n xs rfl ?_ ⟨w.heap.size + 1, 0, none⟩ 1 1 [Value.int .u8 o] rfl rfl ?_ ?_ (by decide) ?_ ?_ ?_ _ rfl ?_; exact ((hown.alloc _).drew.alloc _); (intro j u hj; match j, hj with | 0, hj => simp at hj; subst hj; simp [Addr.add]); (intro u hu; simp at hu; subst hu; rfl); (unfold maxLen; omega); omega; (simp; omega); intro g cap w1 h1 hgrow hat hlt; have f1 := ((((Fr.refl w sv).alloc _).drew).alloc _).app (n := n + 1) (cap := cap) hgrow (by simpa using hat); have hc0 : w1.cell? ⟨w.heap.size, 0, none⟩ = some (.int .u8 o) := (hgrow.cell_far ⟨w.heap.size, 0, none⟩ (by simp; omega) (fun e => hne e.symm)).trans (by simp); have hc1 : w1.cell? ⟨w.heap.size, 1, none⟩ = some (.int .i64 t) := (hgrow.cell_far ⟨w.heap.size, 1, none⟩ (by simp; omega) (fun e => hne e.symm)).trans (by simp); have hc2 : w1.cell? ⟨w.heap.size, 2, none⟩ = some (.int .u64 y) := (hgrow.cell_far ⟨w.heap.size, 2, none⟩ (by simp; omega) (fun e => hne e.symm)).trans (by simp); have hs2 : w.heap.size + 2 ≤ w1.heap.size := (by simpa using hgrow.size); have hneg : (Value.slice (some ⟨g, 0, none⟩) (n + 1) cap).ownBlock ≠ some w.heap.size := (by intro hc; rcases hat with hat | hat; exact hne (hat.trans hc); have : g = w.heap.size := (by simpa [Value.ownBlock] using hc); (simp at hat; omega)); clear hgrow hat)
      | (go_at_call 13; have hne1 : (Value.slice (some ⟨g, 0, none⟩) (n + 1) cap).ownBlock ≠ some w.heap.size := hneg; refine (appendTS B (n + 1) y t hy x hx hx1 _ _ _ h1 ?_ ?_).mono ?_; omega; omega; rintro e w2 ⟨v2, rfl, h2, f2⟩; have hd0 : w2.cell? ⟨w.heap.size, 0, none⟩ = some (.int .u8 o) := (f2.cell _ _ (by omega) hne1).trans hc0; have hd1 : w2.cell? ⟨w.heap.size, 1, none⟩ = some (.int .i64 t) := (f2.cell _ _ (by omega) hne1).trans hc1; have hd2 : w2.cell? ⟨w.heap.size, 2, none⟩ = some (.int .u64 y) := (f2.cell _ _ (by omega) hne1).trans hc2))
  go_wp2
  go_ret
  exact ⟨v2, rfl, h2, f1.trans f2⟩

end Go.Proofs.Qxb6609264a
