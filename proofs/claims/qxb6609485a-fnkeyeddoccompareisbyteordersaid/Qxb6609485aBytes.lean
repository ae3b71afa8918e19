import Derived.Test.Qxb6609485aOrder
namespace Go.Proofs.Qxb6609485a
open Go.RowKit

theorem cmp_cons (x y : UInt8) (xs ys : List UInt8) : Lib.compareBytes (x :: xs) (y :: ys) = if x < y then -1 else if y < x then 1 else Lib.compareBytes xs ys := by rw [Lib.compareBytes]

theorem cmp_end : ∀ (a b : List UInt8) (k : Nat), (k = a.length ∨ k = b.length) → k ≤ a.length → k ≤ b.length →
    Lib.compareBytes (a.drop k) (b.drop k) = if a.length < b.length then -1 else if b.length < a.length then 1 else 0 := by
  intro a b k h ha hb
  rcases h with h | h
  · subst h
    rw [List.drop_length]
    by_cases h1 : a.length < b.length
    · rw [if_pos h1, List.drop_eq_getElem_cons h1]
      rfl
    · rw [if_neg h1, if_neg (by omega), List.drop_of_length_le (by omega)]
      rfl
  · subst h
    rw [List.drop_length]
    by_cases h1 : b.length < a.length
    · rw [if_neg (by omega), if_pos h1, List.drop_eq_getElem_cons h1]
      rfl
    · rw [if_neg (by omega), if_neg h1, List.drop_of_length_le (by omega)]
      rfl

theorem ret_int {k : IntKind} {a b : Int} (h : a = b) : Ending.returned (.int k a) = .returned (.int k b) := by rw [h]

theorem step (a b : ByteArray) (k : Nat) (ha : k < a.size) (hb : k < b.size) :
    Lib.compareBytes (a.data.toList.drop k) (b.data.toList.drop k) = if (a[k].toNat : Int) < (b[k].toNat : Int) then -1 else if (b[k].toNat : Int) < (a[k].toNat : Int) then 1 else Lib.compareBytes (a.data.toList.drop (k + 1)) (b.data.toList.drop (k + 1)) := by
  rw [List.drop_eq_getElem_cons (by rw [← Lib.size_eq]; exact ha), List.drop_eq_getElem_cons (l := b.data.toList) (by rw [← Lib.size_eq]; exact hb), cmp_cons]
  have ea : a.data.toList[k]'(by rw [← Lib.size_eq]; exact ha) = a[k] := rfl
  have eb : b.data.toList[k]'(by rw [← Lib.size_eq]; exact hb) = b[k] := rfl
  simp only [ea, eb, UInt8.lt_iff_toNat_lt, Int.ofNat_lt]

theorem belDrewN {B : Nat} {a w : World} (h : Below B a w) (n : Nat) : Below B a (w.drewN n) := ⟨h.os, h.tape, h.output, h.size, h.block⟩

set_option maxHeartbeats 4000000 in
theorem byteCompare (a b : ByteArray) (w : World) (ha : a.size ≤ maxLen) (hb : b.size ≤ maxLen) :
    Calls Try.prog 8 #[.string a, .string b] w fun e w' => e = .returned (.int .i64 (Lib.compareBytes a.data.toList b.data.toList)) ∧ Below w.heap.size w w' := by
  unfold maxLen at ha hb
  have sa := Lib.size_eq a
  have sb := Lib.size_eq b
  have SA := hide sa
  have SB := hide sb
  clear sa sb
  by_cases hlt : b.size < a.size
  · go_enter Try.func8, Try.ntmps8
    go_wp2
    go_loopw [6] (fun vi wr => ∃ k : Nat, k ≤ b.size ∧ vi = .int .i64 k ∧ Hid (Lib.compareBytes a.data.toList b.data.toList = Lib.compareBytes (a.data.toList.drop k) (b.data.toList.drop k)) ∧ Below w.heap.size w wr) (fun vi _ => b.size - (intOf vi).toNat)
    case atStart => exact ⟨0, Nat.zero_le _, rfl, rfl, Below.refl _ _⟩
    case round =>
      obtain ⟨k, hk, rfl, hcmp, hbel⟩ := hrel
      by_cases hkn : k < b.size
      · have hka : k < a.size := by omega
        have hkb : k < b.size := by omega
        have hst := step a b k hka hkb
        rw [← hcmp.out] at hst
        have HST := hide hst
        clear hst hcmp
        go_wp2
        go_quiet (fail)
        go_wp2
        · go_ret
          exact ⟨ret_int (by rw [HST.out, if_pos (by omega)]), by first | exact belDrewN hbel _ | exact belDrewN (belDrewN hbel _) _⟩
        · go_quiet (fail)
          go_wp2
          · go_ret
            exact ⟨ret_int (by rw [HST.out, if_neg (by omega), if_pos (by omega)]), by first | exact belDrewN hbel _ | exact belDrewN (belDrewN hbel _) _⟩
          · go_roundw
            case rel => exact ⟨k + 1, by omega, by go_num, by show _ = _; rw [HST.out, if_neg (by omega), if_neg (by omega)], belDrewN hbel _⟩
            case measure => simp [intOf]; omega
      · have hke := cmp_end a.data.toList b.data.toList k (by have := SA.out; have := SB.out; omega) (by have := SA.out; omega) (by have := SB.out; omega)
        rw [← hcmp.out, ← SA.out, ← SB.out] at hke
        have HK := hide hke
        clear hke hcmp
        go_wp2
        all_goals
          go_ret
          exact ⟨ret_int (by rw [HK.out]; first | rw [if_pos (by omega)] | rw [if_neg (by omega), if_pos (by omega)] | rw [if_neg (by omega), if_neg (by omega)]), hbel⟩
  · go_enter Try.func8, Try.ntmps8
    go_wp2
    go_loopw [6] (fun vi wr => ∃ k : Nat, k ≤ a.size ∧ vi = .int .i64 k ∧ Hid (Lib.compareBytes a.data.toList b.data.toList = Lib.compareBytes (a.data.toList.drop k) (b.data.toList.drop k)) ∧ Below w.heap.size w wr) (fun vi _ => a.size - (intOf vi).toNat)
    case atStart => exact ⟨0, Nat.zero_le _, rfl, rfl, Below.refl _ _⟩
    case round =>
      obtain ⟨k, hk, rfl, hcmp, hbel⟩ := hrel
      by_cases hkn : k < a.size
      · have hka : k < a.size := by omega
        have hkb : k < b.size := by omega
        have hst := step a b k hka hkb
        rw [← hcmp.out] at hst
        have HST := hide hst
        clear hst hcmp
        go_wp2
        go_quiet (fail)
        go_wp2
        · go_ret
          exact ⟨ret_int (by rw [HST.out, if_pos (by omega)]), by first | exact belDrewN hbel _ | exact belDrewN (belDrewN hbel _) _⟩
        · go_quiet (fail)
          go_wp2
          · go_ret
            exact ⟨ret_int (by rw [HST.out, if_neg (by omega), if_pos (by omega)]), by first | exact belDrewN hbel _ | exact belDrewN (belDrewN hbel _) _⟩
          · go_roundw
            case rel => exact ⟨k + 1, by omega, by go_num, by show _ = _; rw [HST.out, if_neg (by omega), if_neg (by omega)], belDrewN hbel _⟩
            case measure => simp [intOf]; omega
      · have hke := cmp_end a.data.toList b.data.toList k (by have := SA.out; have := SB.out; omega) (by have := SA.out; omega) (by have := SB.out; omega)
        rw [← hcmp.out, ← SA.out, ← SB.out] at hke
        have HK := hide hke
        clear hke hcmp
        go_wp2
        all_goals
          go_ret
          exact ⟨ret_int (by rw [HK.out]; first | rw [if_pos (by omega)] | rw [if_neg (by omega), if_pos (by omega)] | rw [if_neg (by omega), if_neg (by omega)]), hbel⟩

set_option maxHeartbeats 1000000 in
theorem bytes6_ok (a b : ByteArray) (w : World) (h : a.size + b.size ≤ 1048576) :
    Calls Try.prog 6 #[.string a, .string b] w fun e w' => e = .returned (.bool true) ∧ w' = w := by
  go_enter Try.func6, Try.ntmps6
  go_wp2
  all_goals
    go_ret
    exact ⟨rfl, rfl⟩

set_option maxHeartbeats 1000000 in
theorem bytes6_no (a b : ByteArray) (w : World) (ha : a.size ≤ maxLen) (hb : b.size ≤ maxLen) (h : 1048576 < a.size + b.size) :
    Calls Try.prog 6 #[.string a, .string b] w fun e w' => e = .returned (.bool false) ∧ w' = w := by
  unfold maxLen at ha hb
  go_enter Try.func6, Try.ntmps6
  go_wp2
  all_goals
    go_ret
    exact ⟨rfl, rfl⟩

set_option maxHeartbeats 4000000 in
theorem law3 (a b : ByteArray) (w : World) (ha : a.size ≤ maxLen) (hb : b.size ≤ maxLen) :
    Calls Try.prog 3 #[.string a, .string b] w fun e w' => e = .returned (.bool true) ∧ Below w.heap.size w w' := by
  by_cases h : 1048576 < a.size + b.size
  · have Z := hide (bytes6_no a b w ha hb h)
    go_enter Try.func3, Try.ntmps3
    go_wp2_with fail
    refine Z.out.mono ?_
    rintro e w1 ⟨rfl, rfl⟩
    go_wp2
    go_ret
    exact ⟨rfl, Below.refl _ _⟩
  · have Z := hide (bytes6_ok a b w (by omega))
    have k1 := fun W => zzCompare a b W
    have k2 := fun W => byteCompare a b W ha hb
    generalize Lib.compareBytes a.data.toList b.data.toList = x1 at k1 k2
    have K1 := hide k1
    have K2 := hide k2
    unfold maxLen at ha hb
    clear h k1 k2
    by_cases h1 : 65536 < a.size
    · go_enter Try.func3, Try.ntmps3
      go_wp2_with fail
      refine Z.out.mono ?_
      rintro e w1 ⟨rfl, rfl⟩
      go_wp2
      go_ret
      exact ⟨rfl, Below.refl _ _⟩
    by_cases h2 : 65536 < b.size
    · go_enter Try.func3, Try.ntmps3
      go_wp2_with fail
      refine Z.out.mono ?_
      rintro e w1 ⟨rfl, rfl⟩
      go_wp2
      go_ret
      exact ⟨rfl, Below.refl _ _⟩
    go_enter Try.func3, Try.ntmps3
    go_wp2_with fail
    refine Z.out.mono ?_
    rintro e w1 ⟨rfl, rfl⟩
    go_wp2_with fail
    refine (K1.out _).mono ?_
    rintro e w2 ⟨rfl, b1⟩
    go_wp2_with fail
    refine (K2.out _).mono ?_
    rintro e w3 ⟨rfl, b2⟩
    go_wp2
    go_ret
    exact ⟨by simp, b1.trans (b2.mono b1.size)⟩
end Go.Proofs.Qxb6609485a
