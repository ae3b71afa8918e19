import Derived.Test.Qxb6609264aApp
import Derived.Deep.Onto
namespace Go.Proofs.Qxb6609264a
open Go.RowKit

/-- The bytes of a Decide operation. -/
def decBytes (c s n bc o t tc : Nat) : List UInt8 := [(7 : Nat).toUInt8] ++ uv2 c s ++ uv2 n bc ++ [o.toUInt8] ++ uv2 t tc

theorem decBytes_len (c s n bc o t tc : Nat) : 1 + (uv2 c s).length + (uv2 n bc).length + 1 + (uv2 t tc).length = (decBytes c s n bc o t tc).length := by
  unfold decBytes; simp only [List.length_append, List.length_singleton]

theorem decBytes_cells (c s n bc o t tc : Nat) (ho : o < 256) : [Value.int .u8 7] ++ Lib.byteCells (uv2 c s) ++ Lib.byteCells (uv2 n bc) ++ [.int .u8 (o : Int)] ++ Lib.byteCells (uv2 t tc) = Lib.byteCells (decBytes c s n bc o t tc) := by
  unfold decBytes
  have h7 := Lib.byteCells_snoc [] (a := 7) (by decide)
  have hn : Lib.byteCells [] = [] := rfl
  rw [hn] at h7
  simp only [List.nil_append] at h7
  rw [Lib.byteCells_append, Lib.byteCells_snoc _ ho, Lib.byteCells_append, Lib.byteCells_append, h7]
  rfl

theorem uv2_le (x y : Nat) (hx : x < 18446744073709551616) (hy : y < 18446744073709551616) : (uv2 x y).length ≤ 20 := by
  unfold uv2
  have h1 := Lib.uvarint_length64 hx
  have h2 := Lib.uvarint_length64 hy
  rw [List.length_append]; omega

theorem cell3 (w : World) (o1 o2 : Obj) (cs : Array Value) (t : TypeId) (j : Nat) : (((w.alloc o1).alloc o2).alloc (.cells cs t)).cell? ⟨w.heap.size + 2, j, none⟩ = cs[j]? := by
  have h := cell_of_row (((w.alloc o1).alloc o2).alloc (.cells cs t)) (w.heap.size + 2) j cs t (0, 0) (by simpa using heap_alloc_new ((w.alloc o1).alloc o2) (.cells cs t))
  exact h

theorem keepS {w0 w1 : World} {B H : Nat} {c0 c1 c2 c3 c4 c5 c6 : Value} (hb : Below B w0 w1) (hB : H + 3 ≤ B) (h : w0.cell? ⟨H, 0, none⟩ = some c0 ∧ w0.cell? ⟨H, 1, none⟩ = some c1 ∧ w0.cell? ⟨H + 1, 0, none⟩ = some c2 ∧ w0.cell? ⟨H + 1, 1, none⟩ = some c3 ∧ w0.cell? ⟨H + 2, 0, none⟩ = some c4 ∧ w0.cell? ⟨H + 2, 1, none⟩ = some c5 ∧ w0.cell? ⟨H + 2, 2, none⟩ = some c6) : w1.cell? ⟨H, 0, none⟩ = some c0 ∧ w1.cell? ⟨H, 1, none⟩ = some c1 ∧ w1.cell? ⟨H + 1, 0, none⟩ = some c2 ∧ w1.cell? ⟨H + 1, 1, none⟩ = some c3 ∧ w1.cell? ⟨H + 2, 0, none⟩ = some c4 ∧ w1.cell? ⟨H + 2, 1, none⟩ = some c5 ∧ w1.cell? ⟨H + 2, 2, none⟩ = some c6 := by
  obtain ⟨h0, h1, h2, h3, h4, h5, h6⟩ := h
  exact ⟨(hb.cell (by show H < B; omega)).trans h0, (hb.cell (by show H < B; omega)).trans h1, (hb.cell (by show H + 1 < B; omega)).trans h2, (hb.cell (by show H + 1 < B; omega)).trans h3, (hb.cell (by show H + 2 < B; omega)).trans h4, (hb.cell (by show H + 2 < B; omega)).trans h5, (hb.cell (by show H + 2 < B; omega)).trans h6⟩

theorem own7 (w : World) (B : Nat) (hB : B = w.heap.size) : (w.alloc (.cells #[.int .u8 7] 5)).ownsRow B 5 1 (.slice (some ⟨B, 0, none⟩) 1 1) 1 [.int .u8 7] := by
  subst hB
  exact World.ownsRow_lit w #[.int .u8 7] 1 (Nat.le_refl _) (by unfold maxLen; omega) rfl

set_option maxHeartbeats 4000000 in
theorem appendDecide (c s n bc tc : Nat) (o : Nat) (t : Int) (hc : c < 18446744073709551616) (hs : s < 18446744073709551616) (hn : n < 18446744073709551616) (hbc : bc < 18446744073709551616) (htc : tc < 18446744073709551616) (ho : o < 256) (x : Nat) (hx : IntKind.u64.wrap t = x) (hx1 : x < 18446744073709551616) (w : World) :
    Calls Try.prog 8 #[.agg #[.int .u64 c, .int .u64 s], .agg #[.int .u64 n, .int .u64 bc], .agg #[.int .u8 o, .int .i64 t, .int .u64 tc]] w fun e w' => ∃ v', e = .returned v' ∧ w'.ownsRow w.heap.size 5 1 v' (decBytes c s n bc o x tc).length (Lib.byteCells (decBytes c s n bc o x tc)) ∧ Below w.heap.size w w' := by
  have l1 := uv2_le c s hc hs
  have l2 := uv2_le n bc hn hbc
  have k0 : (((w.alloc (.cells #[.int .u64 c, .int .u64 s] 32)).alloc (.cells #[.int .u64 n, .int .u64 bc] 34)).alloc (.cells #[.int .u8 o, .int .i64 t, .int .u64 tc] 39)).cell? ⟨w.heap.size + 2, 0, none⟩ = some (.int .u8 o) := cell3 _ _ _ _ _ _
  have k1 : (((w.alloc (.cells #[.int .u64 c, .int .u64 s] 32)).alloc (.cells #[.int .u64 n, .int .u64 bc] 34)).alloc (.cells #[.int .u8 o, .int .i64 t, .int .u64 tc] 39)).cell? ⟨w.heap.size + 2, 1, none⟩ = some (.int .i64 t) := cell3 _ _ _ _ _ _
  have k2 : (((w.alloc (.cells #[.int .u64 c, .int .u64 s] 32)).alloc (.cells #[.int .u64 n, .int .u64 bc] 34)).alloc (.cells #[.int .u8 o, .int .i64 t, .int .u64 tc] 39)).cell? ⟨w.heap.size + 2, 2, none⟩ = some (.int .u64 tc) := cell3 _ _ _ _ _ _
  go_enter Try.func8, Try.ntmps8
  go_wp2_with fail
  go_region_held3 (fun w' => w'.cell? ⟨w.heap.size, 0, none⟩ = some (.int .u64 c) ∧ w'.cell? ⟨w.heap.size, 1, none⟩ = some (.int .u64 s) ∧ w'.cell? ⟨w.heap.size + 1, 0, none⟩ = some (.int .u64 n) ∧ w'.cell? ⟨w.heap.size + 1, 1, none⟩ = some (.int .u64 bc) ∧ w'.cell? ⟨w.heap.size + 2, 0, none⟩ = some (.int .u8 o) ∧ w'.cell? ⟨w.heap.size + 2, 1, none⟩ = some (.int .i64 t) ∧ w'.cell? ⟨w.heap.size + 2, 2, none⟩ = some (.int .u64 tc)) (first | go_keep | exact keepS (by assumption) (Nat.le_refl _) (by assumption))
    (first
      | (go_at_call 12; refine (appendID (w.heap.size + 1 + 1 + 1) 1 c s hc hs _ [.int .u8 7] _ ?_ ?_ ?_).mono ?_; exact (own7 _ _ (by simp)).drew; simp; omega; rintro e w1 ⟨v1, rfl, h1, f1⟩; have b1 := f1.below (own7 _ _ (by simp)).drew (by simp); have z1 : w.heap.size + 1 + 1 + 1 ≤ w1.heap.size := (by have := f1.1.size; simp at this; omega))
      | (go_at_call 11; refine (appendBallot (w.heap.size + 1 + 1 + 1) _ n bc hn hbc _ _ _ h1 ?_ ?_).mono ?_; omega; omega; rintro e w2 ⟨v2, rfl, h2, f2⟩; have b2 := f2.below h1 z1; have z2 : w.heap.size + 1 + 1 + 1 ≤ w2.heap.size := Nat.le_trans z1 f2.1.size)
      | (go_at_call 10; refine (appendDecision (w.heap.size + 1 + 1 + 1) _ tc o t htc x hx hx1 _ _ _ h2 ?_ ?_).mono ?_; omega; omega; rintro e w3 ⟨v3, rfl, h3, f3⟩; have b3 := f3.below h2 z2))
  go_wp2
  go_ret
  refine ⟨v3, rfl, ?_, ?_⟩
  · rw [decBytes_cells _ _ _ _ _ _ _ ho, decBytes_len] at h3
    exact h3.mono (by omega)
  · have a0 := ((((Below.refl w.heap.size w).alloc (Nat.le_refl _) (.cells #[.int .u64 c, .int .u64 s] 32)).alloc (by simp) (.cells #[.int .u64 n, .int .u64 bc] 34)).alloc (by simp; omega) (.cells #[.int .u8 o, .int .i64 t, .int .u64 tc] 39)).alloc (by simp; omega) (.cells #[.int .u8 7] 5)
    exact (a0.drew.trans (b1.mono (by omega))).trans ((b2.mono (by omega)).trans (b3.mono (by omega)))

set_option maxHeartbeats 1000000 in
theorem zzAppendDecide (c s n bc tc : Nat) (o : Nat) (t : Int) (hc : c < 18446744073709551616) (hs : s < 18446744073709551616) (hn : n < 18446744073709551616) (hbc : bc < 18446744073709551616) (htc : tc < 18446744073709551616) (ho : o < 256) (x : Nat) (hx : IntKind.u64.wrap t = x) (hx1 : x < 18446744073709551616) (w : World) :
    Calls Try.prog 4 #[.int .u64 c, .int .u64 s, .int .u64 n, .int .u64 bc, .int .u8 o, .int .i64 t, .int .u64 tc] w fun e w' => ∃ v', e = .returned v' ∧ w'.ownsRow w.heap.size 5 1 v' (decBytes c s n bc o x tc).length (Lib.byteCells (decBytes c s n bc o x tc)) ∧ Below w.heap.size w w' := by
  go_enter Try.func4, Try.ntmps4
  go_wp2_with fail
  refine (appendDecide c s n bc tc o t hc hs hn hbc htc ho x hx hx1 _).mono ?_
  rintro e w1 ⟨v1, rfl, h1, f1⟩
  go_wp2_with fail
  go_ret
  exact ⟨v1, rfl, h1, f1⟩

end Go.Proofs.Qxb6609264a
