import Derived.Test.Qxb6609552aCtx
import Derived.Laws.Bits128
namespace Go.Proofs.Qxb6609552a
open Go.RowKit

theorem i64_and (n : Int) : bits .and .i64 n 65535 = n % 65536 := by
  have h : (BitVec.ofInt 64 65535).toNat = 2 ^ 16 - 1 := by decide
  have key : (BitVec.ofInt 64 n &&& BitVec.ofInt 64 65535).toNat = (n % ((2 ^ 64 : Nat) : Int)).toNat % 2 ^ 16 := by
    rw [BitVec.toNat_and, BitVec.toNat_ofInt, h, Nat.and_two_pow_sub_one_eq_mod]
  show IntKind.i64.wrap ((BitVec.ofInt 64 n &&& BitVec.ofInt 64 65535).toNat : Nat) = n % 65536
  rw [key, IntKind.wrap_i64]
  omega

/-- The numbers of a context: the session's bytes, then the two of the participant. -/
def nums (s : List UInt8) (v : Nat) : List Int := s.map (fun b => (b.toNat : Int)) ++ [((v / 256 : Nat) : Int), ((v % 256 : Nat) : Int)]

theorem nums_len (s : List UInt8) (v : Nat) (hs : s.length = 32) : (nums s v).length = 34 := by simp [nums, hs]

theorem nums_cells (s : List UInt8) (v : Nat) (j : Nat) (hj : j < 34) (hs : s.length = 32) :
    ((Lib.byteCells s).toArray.toList ++ [Value.int .u8 ((v / 256 : Nat) : Int), .int .u8 ((v % 256 : Nat) : Int)])[j]? = some (.int .u8 ((nums s v).getD j 0)) := by
  have e : (Lib.byteCells s).toArray.toList ++ [Value.int .u8 ((v / 256 : Nat) : Int), .int .u8 ((v % 256 : Nat) : Int)] = (nums s v).map (fun z => Value.int .u8 z) := by
    simp [nums, Lib.byteCells]
  rw [e, List.getElem?_map, List.getD_eq_getElem?_getD, List.getElem?_eq_getElem (by rw [nums_len s v hs]; exact hj)]
  rfl

theorem nums_inj (s t : List UInt8) (v u : Nat) (hs : s.length = 32) (ht : t.length = 32) : nums s v = nums t u ↔ s = t ∧ v = u := by
  constructor
  · intro h
    have h2 := List.append_inj h (by simp [hs, ht])
    obtain ⟨h3, h4⟩ := h2
    simp at h4
    refine ⟨?_, by omega⟩
    have := congrArg (List.map (fun z : Int => z.toNat.toUInt8)) h3
    simpa [List.map_map, Function.comp_def] using this
  · rintro ⟨rfl, rfl⟩; rfl

set_option maxHeartbeats 8000000 in
theorem lawWalk (s t : List UInt8) (hs : s.length = 32) (ht : t.length = 32) (j1 j2 : Int) (w : World) :
    Calls Try.prog 3 #[.agg (Lib.byteCells s).toArray, .int .i64 j1, .agg (Lib.byteCells t).toArray, .int .i64 j2] w fun e w' => e = .returned (.bool true) ∧ Below w.heap.size w w' := by
  obtain ⟨v, hv, hv1, hv2⟩ := u16 j1
  obtain ⟨u, hu, hu1, hu2⟩ := u16 j2
  have a1 := i64_and j1
  have a2 := i64_and j2
  rw [← hv2] at a1
  rw [← hu2] at a2
  have hX : (Lib.byteCells s).toArray.size = 32 := by simp [Lib.byteCells, hs]
  have hY : (Lib.byteCells t).toArray.size = 32 := by simp [Lib.byteCells, ht]
  have c1 := fun W => zzCtx j1 v hv hv1 _ hX W
  have c2 := fun W => zzCtx j2 u hu hu1 _ hY W
  have heq : ∀ W, (binOp .eql 22 (.agg (Lib.byteCells s).toArray) (.agg (Lib.byteCells t).toArray)).run Try.prog W = .ok (.bool (s == t)) W := fun W => run_eql_bytes W 22 5 32 Try.underlying22 Try.underlying5 Try.sizeOf5 s t hs ht
  have n1 := fun j hj => nums_cells s v j hj hs
  have n2 := fun j hj => nums_cells t u j hj ht
  have ninj := nums_inj s t v u hs ht
  have l1 := nums_len s v hs
  have l2 := nums_len t u ht
  generalize (Lib.byteCells s).toArray = X at *
  generalize (Lib.byteCells t).toArray = Y at *
  generalize nums s v = xs at *
  generalize nums t u = ys at *
  have hsz := size22
  have C1 := hide c1
  have C2 := hide c2
  have N1 := hide n1
  have N2 := hide n2
  have NI := hide ninj
  have L1 := hide l1
  have L2 := hide l2
  have HX := hide hX
  have HY := hide hY
  have HS := hide hsz
  clear c1 c2 n1 n2 ninj l1 l2 hX hY hsz hv hu hv2 hu2
  have hX0 : ((w.alloc (.cells X 22)).alloc (.cells Y 22)).heap[w.heap.size]? = some (.cells X 22 (0, 0)) := (Below.heap_alloc (w.alloc (.cells X 22)) _ _ (by simp)).trans (heap_alloc_new w _)
  have hY0 : ((w.alloc (.cells X 22)).alloc (.cells Y 22)).heap[w.heap.size + 1]? = some (.cells Y 22 (0, 0)) := by simpa using heap_alloc_new (w.alloc (.cells X 22)) (.cells Y 22)
  have B0 : Below w.heap.size w ((w.alloc (.cells X 22)).alloc (.cells Y 22)) := ((Below.refl _ w).alloc (Nat.le_refl _) _).alloc (by simp) _
  have z0 : ((w.alloc (.cells X 22)).alloc (.cells Y 22)).heap.size = w.heap.size + 2 := by simp
  have XX := hide hX0
  have YY := hide hY0
  have ZZ := hide z0
  clear hX0 hY0 z0
  go_enter Try.func3, Try.ntmps3
  go_wp2_with (refine wpList_load_row rfl 22 _ rfl w.heap.size rfl 22 X (0, 0) _ XX.out Try.underlying22 rfl (by rw [HX.out]; exact HS.out) ?_)
  refine (C1.out _).mono ?_
  rintro e w1 ⟨v1, rfl, o1, b1⟩
  rw [ZZ.out] at b1
  have y1 := hide ((b1.block (w.heap.size + 1) (by omega)).trans YY.out)
  have x1 := hide ((b1.block w.heap.size (by omega)).trans XX.out)
  have s1 : w.heap.size + 2 ≤ w1.heap.size := by have := b1.size; rw [ZZ.out] at this; exact this
  go_wp2_with (refine wpList_load_row rfl 22 _ rfl (w.heap.size + 1) rfl 22 Y (0, 0) _ y1.out Try.underlying22 rfl (by rw [HY.out]; exact HS.out) ?_)
  refine (C2.out _).mono ?_
  rintro e w2 ⟨v2, rfl, o2, b2⟩
  have y2 := hide ((b2.block (w.heap.size + 1) (by omega)).trans y1.out)
  have x2 := hide ((b2.block w.heap.size (by omega)).trans x1.out)
  obtain ⟨g1, p1, rfl, _, q1⟩ := o1.form (by decide)
  obtain ⟨g2, p2, rfl, _, q2⟩ := o2.form (by decide)
  have cx : ∀ j, j < 34 → w2.cell? ⟨g1, j, none⟩ = some (.int .u8 (xs.getD j 0)) := fun j hj =>
    (b2.cell (p := ⟨g1, j, none⟩) q1).trans ((o1.cellAt j (by omega)).trans (N1.out j hj))
  have cy : ∀ j, j < 34 → w2.cell? ⟨g2, j, none⟩ = some (.int .u8 (ys.getD j 0)) := fun j hj =>
    (o2.cellAt j (by omega)).trans (N2.out j hj)
  have E := hide (bytesEq g1 g2 p1 p2 xs ys L1.out L2.out w2 cx cy)
  clear o1 o2 cx cy
  have hr : decide (xs = ys) = ((s == t) && (v == u)) := by
    rw [Bool.eq_iff_iff]
    simp only [decide_eq_true_eq, NI.out, Bool.and_eq_true, beq_iff_eq]
  rw [hr] at E
  clear hr
  have BB : Below w.heap.size w w2 := B0.trans ((b1.mono (by omega)).trans (b2.mono (by omega)))
  clear b1 b2 B0
  by_cases hst : s = t
  · have e1 : (s == t) = true := by simpa using hst
    rw [e1] at heq E
    simp only [Bool.true_and] at E
    clear hst e1
    by_cases hvu : v = u
    · have e2 : (v == u) = true := by simpa using hvu
      have e3 : ((v : Int) == (u : Int)) = true := by simp [hvu]
      rw [e2] at E
      clear hvu e2
      have E' := hide E.out
      clear E
      go_wp2_with (first
        | (refine wpList_load_row rfl 22 _ rfl w.heap.size rfl 22 X (0, 0) _ x2.out Try.underlying22 rfl (by rw [HX.out]; exact HS.out) ?_)
        | (refine wpList_load_row rfl 22 _ rfl (w.heap.size + 1) rfl 22 Y (0, 0) _ y2.out Try.underlying22 rfl (by rw [HY.out]; exact HS.out) ?_)
        | (go_at_call 8; refine E'.out.mono ?_; rintro e w3 ⟨rfl, b3⟩))
      go_ret
      exact ⟨rfl, BB.trans (b3.mono BB.size)⟩
    · have e2 : (v == u) = false := by simpa using hvu
      have e3 : ((v : Int) == (u : Int)) = false := by simp; omega
      rw [e2] at E
      clear hvu e2
      have E' := hide E.out
      clear E
      go_wp2_with (first
        | (refine wpList_load_row rfl 22 _ rfl w.heap.size rfl 22 X (0, 0) _ x2.out Try.underlying22 rfl (by rw [HX.out]; exact HS.out) ?_)
        | (refine wpList_load_row rfl 22 _ rfl (w.heap.size + 1) rfl 22 Y (0, 0) _ y2.out Try.underlying22 rfl (by rw [HY.out]; exact HS.out) ?_)
        | (go_at_call 8; refine E'.out.mono ?_; rintro e w3 ⟨rfl, b3⟩))
      go_ret
      exact ⟨rfl, BB.trans (b3.mono BB.size)⟩
  · have e1 : (s == t) = false := by simpa using hst
    rw [e1] at heq E
    simp only [Bool.false_and] at E
    clear hst e1
    have E' := hide E.out
    clear E
    go_wp2_with (first
      | (refine wpList_load_row rfl 22 _ rfl w.heap.size rfl 22 X (0, 0) _ x2.out Try.underlying22 rfl (by rw [HX.out]; exact HS.out) ?_)
      | (refine wpList_load_row rfl 22 _ rfl (w.heap.size + 1) rfl 22 Y (0, 0) _ y2.out Try.underlying22 rfl (by rw [HY.out]; exact HS.out) ?_)
      | (go_at_call 8; refine E'.out.mono ?_; rintro e w3 ⟨rfl, b3⟩))
    go_ret
    exact ⟨rfl, BB.trans (b3.mono BB.size)⟩
end Go.Proofs.Qxb6609552a
