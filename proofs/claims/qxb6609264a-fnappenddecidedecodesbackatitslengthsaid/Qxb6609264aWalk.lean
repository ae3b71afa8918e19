import Derived.Test.Qxb6609264aLaw
namespace Go.Proofs.Qxb6609264a
open Go.RowKit

/-- Where each field of the operation lies, and what it is. -/
theorem dec_at {w : World} {g : Nat} (c s n bc o t tc lc ls ln lb lt l6 : Nat) (ho : o < 256)
    (h1 : (Lib.uvarint c).length = lc) (h2 : (Lib.uvarint s).length = ls) (h3 : (Lib.uvarint n).length = ln) (h4 : (Lib.uvarint bc).length = lb) (h5 : (Lib.uvarint t).length = lt) (_h6 : (Lib.uvarint tc).length = l6)
    (h : At w g 0 (decBytes c s n bc o t tc)) :
    w.cell? ⟨g, 0, none⟩ = some (.int .u8 ((7 : Nat) : Int)) ∧ At w g 1 (Lib.uvarint c) ∧ At w g (1 + lc) (Lib.uvarint s) ∧ At w g (1 + lc + ls) (Lib.uvarint n) ∧ At w g (1 + lc + ls + ln) (Lib.uvarint bc) ∧
    w.cell? ⟨g, 1 + lc + ls + ln + lb, none⟩ = some (.int .u8 (o : Int)) ∧ At w g (1 + lc + ls + ln + lb + 1) (Lib.uvarint t) ∧ At w g (1 + lc + ls + ln + lb + 1 + lt) (Lib.uvarint tc) := by
  unfold decBytes uv2 at h
  have e1 := h.left.left.left.left
  have a1 := h.left.left.left.right (k := 1) rfl
  have a2 := h.left.left.right (k := 1 + lc + ls) (by simp only [List.length_append, List.length_singleton]; omega)
  have a3 := h.left.right (k := 1 + lc + ls + ln + lb) (by simp only [List.length_append, List.length_singleton]; omega)
  have a4 := h.right (k := 1 + lc + ls + ln + lb + 1) (by simp only [List.length_append, List.length_singleton]; omega)
  refine ⟨?_, a1.left, a1.right (by omega), a2.left, a2.right (by omega), ?_, a4.left, a4.right (by omega)⟩
  · exact e1 0 (by decide)
  · have := a3 0 (by simp)
    simp only [List.getElem_cons_zero, Lib.toUInt8_toNat ho, Nat.add_zero] at this
    exact this

theorem dec_len (c s n bc o t tc lc ls ln lb lt l6 : Nat)
    (h1 : (Lib.uvarint c).length = lc) (h2 : (Lib.uvarint s).length = ls) (h3 : (Lib.uvarint n).length = ln) (h4 : (Lib.uvarint bc).length = lb) (h5 : (Lib.uvarint t).length = lt) (h6 : (Lib.uvarint tc).length = l6) :
    (decBytes c s n bc o t tc).length = 1 + lc + ls + ln + lb + 1 + lt + l6 := by
  unfold decBytes uv2; simp only [List.length_append, List.length_singleton]; omega

set_option maxHeartbeats 8000000 in
theorem lawWalk (c s n bc o tc x : Nat) (t : Int) (hc : c < 18446744073709551616) (hs : s < 18446744073709551616) (hn : n < 18446744073709551616) (hbc : bc < 18446744073709551616) (htc : tc < 18446744073709551616) (ho : o < 256) (hx : IntKind.u64.wrap t = x) (hx1 : x < 18446744073709551616) (w : World) :
    Calls Try.prog 3 #[.int .u64 c, .int .u64 s, .int .u64 n, .int .u64 bc, .int .u8 o, .int .i64 t, .int .u64 tc] w fun e w' => e = .returned (.bool true) ∧ Below w.heap.size w w' := by
  have z := zzAppendDecide c s n bc tc o t hc hs hn hbc htc ho x hx hx1 w
  obtain ⟨lc, h1⟩ : ∃ l, (Lib.uvarint c).length = l := ⟨_, rfl⟩
  obtain ⟨ls, h2⟩ : ∃ l, (Lib.uvarint s).length = l := ⟨_, rfl⟩
  obtain ⟨ln, h3⟩ : ∃ l, (Lib.uvarint n).length = l := ⟨_, rfl⟩
  obtain ⟨lb, h4⟩ : ∃ l, (Lib.uvarint bc).length = l := ⟨_, rfl⟩
  obtain ⟨lt, h5⟩ : ∃ l, (Lib.uvarint x).length = l := ⟨_, rfl⟩
  obtain ⟨l6, h6⟩ : ∃ l, (Lib.uvarint tc).length = l := ⟨_, rfl⟩
  have g1 := Lib.uvarint_length64 hc
  have g2 := Lib.uvarint_length64 hs
  have g3 := Lib.uvarint_length64 hn
  have g4 := Lib.uvarint_length64 hbc
  have g5 := Lib.uvarint_length64 hx1
  have g6 := Lib.uvarint_length64 htc
  have hL := dec_len c s n bc o x tc lc ls ln lb lt l6 h1 h2 h3 h4 h5 h6
  rw [h1] at g1; rw [h2] at g2; rw [h3] at g3; rw [h4] at g4; rw [h5] at g5; rw [h6] at g6
  rw [hL] at z
  obtain ⟨N, hN⟩ : ∃ N, 1 + lc + ls + ln + lb + 1 + lt + l6 = N := ⟨_, rfl⟩
  obtain ⟨q2, hq2⟩ : ∃ q, 1 + lc = q := ⟨_, rfl⟩
  obtain ⟨q3, hq3⟩ : ∃ q, q2 + ls = q := ⟨_, rfl⟩
  obtain ⟨q4, hq4⟩ : ∃ q, q3 + ln = q := ⟨_, rfl⟩
  obtain ⟨q5, hq5⟩ : ∃ q, q4 + lb = q := ⟨_, rfl⟩
  obtain ⟨q6, hq6⟩ : ∃ q, q5 + 1 = q := ⟨_, rfl⟩
  obtain ⟨q7, hq7⟩ : ∃ q, q6 + lt = q := ⟨_, rfl⟩
  rw [hN] at z
  have hmax : N ≤ maxLen := by unfold maxLen; omega
  have d1 := fun wx => ulenL c lc hc h1 wx
  have d2 := fun wx => ulenL s ls hs h2 wx
  have d3 := fun wx => ulenL n ln hn h3 wx
  have d4 := fun wx => ulenL bc lb hbc h4 wx
  have d5 := fun wx => ulenL x lt hx1 h5 wx
  have d6 := fun wx => ulenL tc l6 htc h6 wx
  have hat := fun (wx : World) (g : Nat) => dec_at (w := wx) (g := g) c s n bc o x tc lc ls ln lb lt l6 ho h1 h2 h3 h4 h5 h6
  rw [hq2, hq3, hq4, hq5, hq6, hq7] at hat
  have e1 : ∀ (wx : World) (g cap : Nat) (_ : At wx g 1 (Lib.uvarint c)), Calls Try.prog 7 #[.slice (some ⟨g, 0, none⟩) N cap, .int .i64 1, .int .u64 c] wx fun e w' => e = .returned (.tuple #[.int .i64 (q2 : Nat), .bool true]) ∧ w' = wx := fun wx g cap h => expectUvarint g N cap 1 c q2 hc wx (by omega) (by omega) hmax h
  have e2 := fun (wx : World) (g cap : Nat) (h : At wx g q2 (Lib.uvarint s)) => expectUvarint g N cap q2 s q3 hs wx (by omega) (by omega) hmax h
  have e3 := fun (wx : World) (g cap : Nat) (h : At wx g q3 (Lib.uvarint n)) => expectUvarint g N cap q3 n q4 hn wx (by omega) (by omega) hmax h
  have e4 := fun (wx : World) (g cap : Nat) (h : At wx g q4 (Lib.uvarint bc)) => expectUvarint g N cap q4 bc q5 hbc wx (by omega) (by omega) hmax h
  have e5 := fun (wx : World) (g cap : Nat) (h : At wx g q6 (Lib.uvarint x)) => expectUvarint g N cap q6 x q7 hx1 wx (by omega) (by omega) hmax h
  have e6 := fun (wx : World) (g cap : Nat) (h : At wx g q7 (Lib.uvarint tc)) => expectUvarint g N cap q7 tc N htc wx (by omega) (by omega) hmax h
  have b0 : ∀ (wx : World) (g cap : Nat) (_ : wx.cell? ⟨g, 0, none⟩ = some (.int .u8 ((7 : Nat) : Int))), Calls Try.prog 6 #[.slice (some ⟨g, 0, none⟩) N cap, .int .i64 0, .int .u8 7] wx fun e w' => e = .returned (.tuple #[.int .i64 1, .bool true]) ∧ w' = wx := fun wx g cap h => expectByte g N cap 0 7 wx (by omega) hmax h
  have b1 := fun (wx : World) (g cap : Nat) (h : wx.cell? ⟨g, q5, none⟩ = some (.int .u8 (o : Int))) => expectByte g N cap q5 o wx (by omega) hmax h
  rw [hq6] at b1
  have hsum : ((N : Int) != 2 + lc + ls + ln + lb + lt + l6) = false := by simp; omega
  have hN0 : 0 < N := by omega
  have Z := hide z; have D1 := hide d1; have D2 := hide d2; have D3 := hide d3; have D4 := hide d4; have D5 := hide d5; have D6 := hide d6
  have E1 := hide e1; have E2 := hide e2; have E3 := hide e3; have E4 := hide e4; have E5 := hide e5; have E6 := hide e6; have B0 := hide b0; have B1 := hide b1; have HA := hide hat
  clear z d1 d2 d3 d4 d5 d6 e1 e2 e3 e4 e5 e6 b0 b1 hat h1 h2 h3 h4 h5 h6 hL hN hq2 hq3 hq4 hq5 hq6 hq7
  go_enter Try.func3, Try.ntmps3
  go_wp2_with fail
  refine Z.out.mono ?_
  rintro e w1 ⟨v1, rfl, hown, hbel⟩
  obtain ⟨g, cap, rfl, _, _⟩ := hown.form hN0
  obtain ⟨k0, k1, k2, k3, k4, k5, k6, k7⟩ := HA.out w1 g (At.of_own hown)
  clear hown Z HA
  have K0 := hide k0; have K5 := hide k5
  clear k0 k5
  go_wp2_with fail
  refine (D1.out _).mono ?_
  rintro e w' ⟨rfl, rfl⟩
  go_wp2_with fail
  refine (D2.out _).mono ?_
  rintro e w' ⟨rfl, rfl⟩
  go_wp2_with fail
  refine (D3.out _).mono ?_
  rintro e w' ⟨rfl, rfl⟩
  go_wp2_with fail
  refine (D4.out _).mono ?_
  rintro e w' ⟨rfl, rfl⟩
  go_wp2_with fail
  refine (D5.out _).mono ?_
  rintro e w' ⟨rfl, rfl⟩
  go_wp2_with fail
  refine (D6.out _).mono ?_
  rintro e w' ⟨rfl, rfl⟩
  go_wp2_with fail
  refine (B0.out _ _ _ K0.out).mono ?_
  rintro e w' ⟨rfl, rfl⟩
  go_wp2_with fail
  refine (E1.out _ _ _ k1).mono ?_
  rintro e w' ⟨rfl, rfl⟩
  go_wp2_with fail
  refine (E2.out _ _ _ k2).mono ?_
  rintro e w' ⟨rfl, rfl⟩
  go_wp2_with fail
  refine (E3.out _ _ _ k3).mono ?_
  rintro e w' ⟨rfl, rfl⟩
  go_wp2_with fail
  refine (E4.out _ _ _ k4).mono ?_
  rintro e w' ⟨rfl, rfl⟩
  go_wp2_with fail
  refine (B1.out _ _ _ K5.out).mono ?_
  rintro e w' ⟨rfl, rfl⟩
  go_wp2_with fail
  refine (E5.out _ _ _ k6).mono ?_
  rintro e w' ⟨rfl, rfl⟩
  go_wp2_with fail
  refine (E6.out _ _ _ k7).mono ?_
  rintro e w' ⟨rfl, rfl⟩
  go_wp2
  go_ret
  exact ⟨rfl, hbel⟩

end Go.Proofs.Qxb6609264a
