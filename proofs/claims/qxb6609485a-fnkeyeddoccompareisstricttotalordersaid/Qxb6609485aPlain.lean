/- The plain law of the keys: no Go in sight. -/
import Derived.Lib.Bytealg
import Derived.Lib.Endian
namespace Go.Proofs.Qxb6609485a
open Go.Lib (compareBytes beNat beFrom)

/-- The first k bytes of l, zeros past its end. -/
def padk : Nat → List UInt8 → List UInt8
  | 0, _ => []
  | k + 1, [] => 0 :: padk k []
  | k + 1, x :: xs => x :: padk k xs

/-- The number that they spell, the greatest first. -/
def natk : Nat → List UInt8 → Nat
  | 0, _ => 0
  | k + 1, [] => natk k []
  | k + 1, x :: xs => x.toNat * 256 ^ k + natk k xs

theorem padk_length : ∀ (k : Nat) (l : List UInt8), (padk k l).length = k
  | 0, _ => rfl
  | k + 1, [] => by simp [padk, padk_length k []]
  | k + 1, x :: xs => by simp [padk, padk_length k xs]

theorem padk_eq : ∀ (k : Nat) (l : List UInt8), padk k l = l.take k ++ List.replicate (k - l.length) 0
  | 0, _ => by simp [padk]
  | k + 1, [] => by
    have := padk_eq k []
    simp at this
    simp [padk, this, List.replicate_succ]
  | k + 1, x :: xs => by
    have := padk_eq k xs
    simp [padk, this]

theorem natk_nil : ∀ k, natk k [] = 0
  | 0 => rfl
  | k + 1 => by simp [natk, natk_nil k]

theorem natk_lt : ∀ (k : Nat) (l : List UInt8), natk k l < 256 ^ k
  | 0, _ => by simp [natk]
  | k + 1, [] => by rw [natk_nil]; exact Nat.pow_pos (by decide)
  | k + 1, x :: xs => by
    have h := natk_lt k xs
    have hx := x.toNat_lt
    simp only [natk, Nat.pow_succ]
    have : x.toNat * 256 ^ k ≤ 255 * 256 ^ k := Nat.mul_le_mul_right _ (by omega)
    omega

theorem beFrom_eq : ∀ (l : List UInt8) (acc : Nat), beFrom acc l = acc * 256 ^ l.length + beFrom 0 l
  | [], acc => by simp [beFrom]
  | x :: xs, acc => by
    simp only [beFrom, List.length_cons]
    rw [beFrom_eq xs (acc * 256 + x.toNat), beFrom_eq xs (0 * 256 + x.toNat)]
    rw [Nat.pow_succ, Nat.add_mul, Nat.zero_mul, Nat.zero_add]
    have : acc * 256 * 256 ^ xs.length = acc * (256 ^ xs.length * 256) := by rw [Nat.mul_assoc, Nat.mul_comm 256]
    omega

theorem natk_pad : ∀ (k : Nat) (l : List UInt8), beNat (padk k l) = natk k l
  | 0, _ => rfl
  | k + 1, [] => by
    have h := natk_pad k []
    unfold beNat at h ⊢
    simp only [padk, beFrom, natk]
    rw [beFrom_eq, h]
    simp
  | k + 1, x :: xs => by
    have h := natk_pad k xs
    unfold beNat at h ⊢
    simp only [padk, beFrom, natk]
    rw [beFrom_eq, h, padk_length]
    simp

theorem cmp_range : ∀ (a b : List UInt8), compareBytes a b = -1 ∨ compareBytes a b = 0 ∨ compareBytes a b = 1
  | [], [] => by simp [compareBytes]
  | [], _ :: _ => by simp [compareBytes]
  | _ :: _, [] => by simp [compareBytes]
  | x :: xs, y :: ys => by
    unfold compareBytes
    have := cmp_range xs ys
    split
    · exact .inl rfl
    · split
      · exact .inr (.inr rfl)
      · exact this

theorem cmp_anti : ∀ (a b : List UInt8), compareBytes b a = - compareBytes a b
  | [], [] => by simp [compareBytes]
  | [], _ :: _ => by simp [compareBytes]
  | _ :: _, [] => by simp [compareBytes]
  | x :: xs, y :: ys => by
    have h := cmp_anti xs ys
    have e1 : compareBytes (x :: xs) (y :: ys) = if x < y then -1 else if y < x then 1 else compareBytes xs ys := by rw [compareBytes]
    have e2 : compareBytes (y :: ys) (x :: xs) = if y < x then -1 else if x < y then 1 else compareBytes ys xs := by rw [compareBytes]
    rw [e1, e2]
    by_cases h1 : x < y
    · have h2 : ¬ y < x := by simp only [UInt8.lt_iff_toNat_lt] at *; omega
      simp [h1, h2]
    · by_cases h2 : y < x
      · simp [h1, h2]
      · simp [h1, h2, h]

theorem cmp_zero : ∀ (a b : List UInt8), compareBytes a b = 0 ↔ a = b
  | [], [] => by simp [compareBytes]
  | [], _ :: _ => by simp [compareBytes]
  | _ :: _, [] => by simp [compareBytes]
  | x :: xs, y :: ys => by
    have h := cmp_zero xs ys
    have e1 : compareBytes (x :: xs) (y :: ys) = if x < y then -1 else if y < x then 1 else compareBytes xs ys := by rw [compareBytes]
    rw [e1]
    by_cases h1 : x < y
    · have : x ≠ y := by intro e; rw [e] at h1; simp only [UInt8.lt_iff_toNat_lt] at h1; omega
      simp [h1, this]
    · by_cases h2 : y < x
      · have : x ≠ y := by intro e; rw [e] at h2; simp only [UInt8.lt_iff_toNat_lt] at h2; omega
        simp [h1, h2, this]
      · have : x = y := by
          apply UInt8.toNat_inj.1
          simp only [UInt8.lt_iff_toNat_lt] at h1 h2; omega
        simp [h, this]

theorem cmp_trans : ∀ (a b c : List UInt8), compareBytes a b = -1 → compareBytes b c = -1 → compareBytes a c = -1
  | [], [], _ => by simp [compareBytes]
  | _, _ :: _, [] => by simp [compareBytes]
  | [], _ :: _, _ :: _ => by simp [compareBytes]
  | _ :: _, [], _ => by simp [compareBytes]
  | x :: xs, y :: ys, z :: zs => by
    have h := cmp_trans xs ys zs
    have e1 : compareBytes (x :: xs) (y :: ys) = if x < y then -1 else if y < x then 1 else compareBytes xs ys := by rw [compareBytes]
    have e2 : compareBytes (y :: ys) (z :: zs) = if y < z then -1 else if z < y then 1 else compareBytes ys zs := by rw [compareBytes]
    have e3 : compareBytes (x :: xs) (z :: zs) = if x < z then -1 else if z < x then 1 else compareBytes xs zs := by rw [compareBytes]
    rw [e1, e2, e3]
    intro p q
    simp only [UInt8.lt_iff_toNat_lt] at *
    by_cases h3 : x.toNat < z.toNat
    · rw [if_pos h3]
    · by_cases h1 : x.toNat < y.toNat
      · rw [if_neg (by omega), if_pos (by omega)] at q
        omega
      · rw [if_neg h1] at p
        by_cases h1' : y.toNat < x.toNat
        · rw [if_pos h1'] at p; omega
        · rw [if_neg h1'] at p
          by_cases h2 : y.toNat < z.toNat
          · omega
          · rw [if_neg h2] at q
            by_cases h2' : z.toNat < y.toNat
            · rw [if_pos h2'] at q; omega
            · rw [if_neg h2'] at q
              rw [if_neg h3, if_neg (by omega)]
              exact h p q

theorem natk_less : ∀ (k : Nat) (a b : List UInt8), natk k a < natk k b → compareBytes a b = -1
  | 0, _, _ => by simp [natk]
  | k + 1, [], [] => by simp [natk_nil]
  | k + 1, [], _ :: _ => by simp [compareBytes]
  | k + 1, _ :: _, [] => by rw [natk_nil]; omega
  | k + 1, x :: xs, y :: ys => by
    intro h
    simp only [natk] at h
    have hx := natk_lt k xs
    have hy := natk_lt k ys
    rw [compareBytes]
    by_cases h1 : x < y
    · rw [if_pos h1]
    · rw [if_neg h1]
      simp only [UInt8.lt_iff_toNat_lt] at h1 ⊢
      by_cases h2 : y.toNat < x.toNat
      · exfalso
        have : (y.toNat + 1) * 256 ^ k ≤ x.toNat * 256 ^ k := Nat.mul_le_mul_right _ (by omega)
        rw [Nat.add_mul] at this
        omega
      · rw [if_neg h2]
        have e : x.toNat = y.toNat := by omega
        rw [e] at h
        exact natk_less k xs ys (by omega)

/-- THE KEYS' OWN COMPARISON. -/
def cmpKey (a b : List UInt8) : Int :=
  if natk 8 a = natk 8 b then compareBytes a b else if natk 8 a < natk 8 b then -1 else 1

theorem cmpKey_eq (a b : List UInt8) : cmpKey a b = compareBytes a b := by
  unfold cmpKey
  by_cases h : natk 8 a = natk 8 b
  · rw [if_pos h]
  · rw [if_neg h]
    by_cases h2 : natk 8 a < natk 8 b
    · rw [if_pos h2, natk_less 8 a b h2]
    · rw [if_neg h2, cmp_anti b a, natk_less 8 b a (by omega)]
      rfl
end Go.Proofs.Qxb6609485a
