import Derived.Lib.Varint
namespace Go.Proofs.Qxb6609264a

/-- The number of bits of x: 0 for 0, else log2 + 1. -/
def blen (x : Nat) : Nat := if x = 0 then 0 else x.log2 + 1

theorem blen_zero : blen 0 = 0 := rfl

theorem blen_half (x : Nat) (h : x ≠ 0) : blen x = blen (x / 2) + 1 := by
  unfold blen
  rw [if_neg h, Nat.log2_def]
  by_cases h2 : 2 ≤ x
  · rw [if_pos h2, if_neg (by omega)]
  · rw [if_neg h2, if_pos (by omega)]

theorem blen_lt : ∀ (k x : Nat), x < 2 ^ k → blen x ≤ k
  | 0, x, h => by
    have : x = 0 := by simpa using h
    subst this; simp [blen]
  | k + 1, x, h => by
    by_cases hx : x = 0
    · subst hx; simp [blen]
    · rw [blen_half x hx]
      have := blen_lt k (x / 2) (by rw [Nat.pow_succ] at h; omega)
      omega

theorem blen_pos (x : Nat) (h : x ≠ 0) : 1 ≤ blen x := by rw [blen_half x h]; omega

theorem blen_128 (x : Nat) (h : 128 ≤ x) : blen x = blen (x / 128) + 7 := by
  rw [blen_half x (by omega), blen_half (x / 2) (by omega), blen_half (x / 2 / 2) (by omega), blen_half (x / 2 / 2 / 2) (by omega), blen_half (x / 2 / 2 / 2 / 2) (by omega), blen_half (x / 2 / 2 / 2 / 2 / 2) (by omega), blen_half (x / 2 / 2 / 2 / 2 / 2 / 2) (by omega)]
  have e : x / 2 / 2 / 2 / 2 / 2 / 2 / 2 = x / 128 := by omega
  rw [e]

/-- The closed form of the law's own text. -/
def ulen (x : Nat) : Nat := if x = 0 then 1 else (blen x + 6) / 7

theorem ulen_small (x : Nat) (h : x < 128) : ulen x = 1 := by
  unfold ulen
  by_cases hx : x = 0
  · rw [if_pos hx]
  · rw [if_neg hx]
    have h1 := blen_lt 7 x (by simpa using h)
    have h2 := blen_pos x hx
    omega

theorem ulen_big (x : Nat) (h : 128 ≤ x) : ulen x = ulen (x / 128) + 1 := by
  unfold ulen
  rw [if_neg (by omega), if_neg (by omega), blen_128 x h]
  omega

theorem ulen_eq : ∀ (k x : Nat), x < 128 ^ (k + 1) → ulen x = (Lib.uvarint x).length
  | 0, x, h => by rw [Lib.uvarint_small (by simpa using h), ulen_small x (by simpa using h)]; rfl
  | k + 1, x, h => by
    by_cases hx : x < 128
    · rw [Lib.uvarint_small hx, ulen_small x hx]; rfl
    · rw [Lib.uvarint_big (by omega), List.length_cons, ulen_big x (by omega)]
      rw [ulen_eq k (x / 128) (by rw [Nat.pow_succ] at h; exact Nat.div_lt_of_lt_mul (by rw [Nat.mul_comm]; exact h))]

theorem ulen_eq64 {x : Nat} (h : x < 18446744073709551616) : ulen x = (Lib.uvarint x).length :=
  ulen_eq 9 x (Nat.lt_of_lt_of_le h (by decide))

theorem blen_64 {x : Nat} (h : x < 18446744073709551616) : blen x ≤ 64 := blen_lt 64 x (by simpa using h)
end Go.Proofs.Qxb6609264a
