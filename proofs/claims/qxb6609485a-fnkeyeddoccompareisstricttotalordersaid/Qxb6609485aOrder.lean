import Derived.Test.Qxb6609485aKeyOf
namespace Go.Proofs.Qxb6609485a
open Go.RowKit

theorem hide {p : Prop} (h : p) : Hid p := h

set_option maxHeartbeats 1000000 in
theorem bytes9_ok (a b c : ByteArray) (w : World) (h : a.size + b.size + c.size ≤ 1048576) :
    Calls Try.prog 9 #[.string a, .string b, .string c] w fun e w' => e = .returned (.bool true) ∧ w' = w := by
  go_enter Try.func9, Try.ntmps9
  go_wp2
  all_goals
    go_ret
    exact ⟨rfl, rfl⟩

set_option maxHeartbeats 1000000 in
theorem bytes9_no (a b c : ByteArray) (w : World) (ha : a.size ≤ maxLen) (hb : b.size ≤ maxLen) (hc : c.size ≤ maxLen) (h : 1048576 < a.size + b.size + c.size) :
    Calls Try.prog 9 #[.string a, .string b, .string c] w fun e w' => e = .returned (.bool false) ∧ w' = w := by
  unfold maxLen at ha hb hc
  go_enter Try.func9, Try.ntmps9
  go_wp2
  all_goals
    go_ret
    exact ⟨rfl, rfl⟩

theorem eqOf (a b : ByteArray) (x : Int) (h : x = 0 ↔ a.data.toList = b.data.toList) : (!(x == 0) == (a.toList == b.toList)) = false := by
  have e : (a.toList == b.toList) = (x == 0) := by
    have ea : a.toList = a.data.toList := by obtain ⟨⟨l⟩⟩ := a; simp
    have eb : b.toList = b.data.toList := by obtain ⟨⟨l⟩⟩ := b; simp
    rw [Bool.eq_iff_iff, beq_iff_eq, beq_iff_eq, ea, eb]
    exact h.symm
  rw [e]
  cases (x == 0) <;> rfl

set_option maxHeartbeats 4000000 in
theorem law4 (a b c : ByteArray) (w : World) (ha : a.size ≤ maxLen) (hb : b.size ≤ maxLen) (hc : c.size ≤ maxLen) :
    Calls Try.prog 4 #[.string a, .string b, .string c] w fun e w' => e = .returned (.bool true) ∧ Below w.heap.size w w' := by
  by_cases h : 1048576 < a.size + b.size + c.size
  · have z := bytes9_no a b c w ha hb hc h
    have Z := hide z
    clear z
    go_enter Try.func4, Try.ntmps4
    go_wp2_with fail
    refine Z.out.mono ?_
    rintro e w1 ⟨rfl, rfl⟩
    go_wp2
    go_ret
    exact ⟨rfl, Below.refl _ _⟩
  · have z := bytes9_ok a b c w (by omega)
    have Z := hide z
    unfold maxLen at ha hb hc
    clear z h
    by_cases h1 : 65536 < a.size
    · go_enter Try.func4, Try.ntmps4
      go_wp2_with fail
      refine Z.out.mono ?_
      rintro e w1 ⟨rfl, rfl⟩
      go_wp2
      go_ret
      exact ⟨rfl, Below.refl _ _⟩
    by_cases h2 : 65536 < b.size
    · go_enter Try.func4, Try.ntmps4
      go_wp2_with fail
      refine Z.out.mono ?_
      rintro e w1 ⟨rfl, rfl⟩
      go_wp2
      go_ret
      exact ⟨rfl, Below.refl _ _⟩
    by_cases h3 : 65536 < c.size
    · go_enter Try.func4, Try.ntmps4
      go_wp2_with fail
      refine Z.out.mono ?_
      rintro e w1 ⟨rfl, rfl⟩
      go_wp2
      go_ret
      exact ⟨rfl, Below.refl _ _⟩
    have k1 := fun W => zzCompare a b W
    have k2 := fun W => zzCompare b a W
    have k3 := fun W => zzCompare b c W
    have k4 := fun W => zzCompare a c W
    rw [cmp_anti a.data.toList b.data.toList] at k2
    have r1 := cmp_range a.data.toList b.data.toList
    have r3 := cmp_range b.data.toList c.data.toList
    have r4 := cmp_range a.data.toList c.data.toList
    have z1 := cmp_zero a.data.toList b.data.toList
    have z3 := cmp_zero b.data.toList c.data.toList
    have z4 := cmp_zero a.data.toList c.data.toList
    have t1 := cmp_trans a.data.toList b.data.toList c.data.toList
    have t2 := cmp_trans c.data.toList b.data.toList a.data.toList
    rw [cmp_anti b.data.toList c.data.toList, cmp_anti a.data.toList b.data.toList, cmp_anti a.data.toList c.data.toList] at t2
    generalize Lib.compareBytes a.data.toList b.data.toList = x1 at *
    generalize Lib.compareBytes b.data.toList c.data.toList = x3 at *
    generalize Lib.compareBytes a.data.toList c.data.toList = x4 at *
    have p1 : -1 ≤ x1 ∧ x1 ≤ 1 := by omega
    obtain ⟨p1a, p1b⟩ := p1
    have e1 := eqOf a b x1 z1
    have e3 := eqOf b c x3 z3
    have e4 := eqOf a c x4 z4
    have K1 := hide k1; have K2 := hide k2; have K3 := hide k3; have K4 := hide k4
    have R1 := hide r1; have R3 := hide r3; have R4 := hide r4; have T1 := hide t1; have T2 := hide t2
    clear k1 k2 k3 k4 z1 z3 z4 t1 t2 r1 r3 r4
    go_enter Try.func4, Try.ntmps4
    go_wp2_with fail
    refine Z.out.mono ?_
    rintro e w1 ⟨rfl, rfl⟩
    go_wp2_with fail
    refine (K1.out _).mono ?_
    rintro e w2 ⟨rfl, b1⟩
    go_wp2_with fail
    refine (K2.out _).mono ?_
    rintro e w3 ⟨rfl, b2⟩
    go_wp2_with fail
    refine (K3.out _).mono ?_
    rintro e w4 ⟨rfl, b3⟩
    go_wp2_with fail
    refine (K4.out _).mono ?_
    rintro e w5 ⟨rfl, b4⟩
    go_wp2
    all_goals
      go_ret
      first
        | exact ⟨rfl, (b1.trans (b2.mono b1.size)).trans ((b3.mono (Nat.le_trans b1.size b2.size)).trans (b4.mono (Nat.le_trans b1.size (Nat.le_trans b2.size b3.size))))⟩
        | (exfalso; have := R1.out; have := R3.out; have := R4.out; have := T1.out; have := T2.out; omega)
end Go.Proofs.Qxb6609485a
