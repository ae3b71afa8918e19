import Derived.Test.Qxb6609264aDec
import Derived.Test.Qxb6609264aRead
namespace Go.Proofs.Qxb6609264a
open Go.RowKit

/-- The bytes l lie in block g from place i on. -/
def At (w : World) (g i : Nat) (l : List UInt8) : Prop := ∀ j (hj : j < l.length), w.cell? ⟨g, i + j, none⟩ = some (.int .u8 (l[j]).toNat)

theorem At.left {w : World} {g i : Nat} {l m : List UInt8} (h : At w g i (l ++ m)) : At w g i l := fun j hj => by
  have := h j (by rw [List.length_append]; omega)
  rwa [List.getElem_append_left hj] at this

theorem At.right {w : World} {g i : Nat} {l m : List UInt8} (h : At w g i (l ++ m)) {k : Nat} (hk : i + l.length = k) : At w g k m := fun j hj => by
  have := h (l.length + j) (by rw [List.length_append]; omega)
  rw [List.getElem_append_right (by omega)] at this
  simp only [Nat.add_sub_cancel_left] at this
  rw [← hk, Nat.add_assoc]
  exact this

theorem At.of_own {w : World} {B g n cap : Nat} {l : List UInt8} (h : w.ownsRow B 5 1 (.slice (some ⟨g, 0, none⟩) n cap) n (Lib.byteCells l)) : At w g 0 l := fun j hj => by
  have h2 := h.cells (g := g) rfl j (.int .u8 (l[j]).toNat) (by simp [Lib.byteCells, hj])
  have hadd : (⟨g, 0, none⟩ : Addr).add j = ⟨g, j, none⟩ := by unfold Addr.add; split <;> simp_all
  rw [hadd] at h2
  rw [Nat.zero_add]
  exact h2

theorem ulenL (x l : Nat) (hx : x < 18446744073709551616) (hl : (Lib.uvarint x).length = l) (w : World) :
    Calls Try.prog 5 #[.int .u64 x] w fun e w' => e = .returned (.int .i64 (l : Nat)) ∧ w' = w := by
  have := uvarintLen x hx w
  rw [ulen_eq64 hx, hl] at this
  exact this

set_option maxHeartbeats 1000000 in
theorem expectUvarint (g n cap i X E : Nat) (hX : X < 18446744073709551616) (w : World) (hE : i + (Lib.uvarint X).length = E) (hin : E ≤ n) (hn : n ≤ maxLen) (hcell : At w g i (Lib.uvarint X)) :
    Calls Try.prog 7 #[.slice (some ⟨g, 0, none⟩) n cap, .int .i64 i, .int .u64 X] w fun e w' => e = .returned (.tuple #[.int .i64 (E : Nat), .bool true]) ∧ w' = w := by
  have hg := getUvarint g n cap i X hX w (by omega) hn hcell
  rw [hE] at hg
  clear hcell hE
  go_enter Try.func7, Try.ntmps7
  go_wp2_with fail
  refine hg.mono ?_
  rintro e w1 ⟨rfl, rfl⟩
  clear hg
  go_wp2
  go_ret2
  exact ⟨rfl, rfl⟩

end Go.Proofs.Qxb6609264a
