/- binary.AppendUvarint (15) and wire.AppendUvarint (14), with the exact frame: what turns is the slice's own block alone; the new slice lies in that block or in a new one. -/
import Derived.Test.Qxb6609264aProg
import Derived.Lib.Walk
import Derived.Lib.VarintMem
import Derived.Lib.Slices
import Derived.Deep.AppendLies
import Derived.OwnWalk
import Derived.WalkKit
namespace Go.Proofs.Qxb6609264a
open Go.RowKit

/-- From w to wr only v's own block and new blocks have turned; vb lies in v's own block or in a new one. -/
def Fr (w wr : World) (v vb : Value) : Prop :=
  w.grownBy wr v.ownBlock ∧ (vb.ownBlock = v.ownBlock ∨ ∃ k, vb.ownBlock = some k ∧ w.heap.size ≤ k)

theorem Fr.refl (w : World) (v : Value) : Fr w w v v := ⟨World.grownBy.refl _ _, .inl rfl⟩

theorem Fr.trans {w w1 w2 : World} {v v1 v2 : Value} (h : Fr w w1 v v1) (k : Fr w1 w2 v1 v2) : Fr w w2 v v2 := by
  obtain ⟨h1, h2⟩ := h
  obtain ⟨k1, k2⟩ := k
  refine ⟨⟨k1.os.trans h1.os, k1.tape.trans h1.tape, k1.output.trans h1.output, Nat.le_trans h1.size k1.size, fun i hi hne => ?_⟩, ?_⟩
  · have e1 := h1.block i hi hne
    have hlt := h1.size
    rw [k1.block i (by omega) ?_, e1]
    rcases h2 with h2 | ⟨j, h2, h3⟩
    · rw [h2]; exact hne
    · rw [h2]; intro hc; cases hc; omega
  · rcases k2 with k2 | ⟨j, k2, k3⟩
    · rw [k2]; exact h2
    · exact .inr ⟨j, k2, by have := h1.size; omega⟩

theorem Fr.alloc {w wr : World} {v vb : Value} (h : Fr w wr v vb) (o : Obj) : Fr w (wr.alloc o) v vb :=
  h.trans ⟨World.grownBy_alloc wr o _, .inl rfl⟩

theorem Fr.drew {w wr : World} {v vb : Value} (h : Fr w wr v vb) : Fr w wr.drew v vb := ⟨⟨h.1.os, h.1.tape, h.1.output, h.1.size, h.1.block⟩, h.2⟩

theorem Fr.app {w wr w1 : World} {v vb : Value} (h : Fr w wr v vb) (hg : wr.grownBy w1 vb.ownBlock) {g n cap : Nat} (hat : vb.ownBlock = some g ∨ g = wr.heap.size) : Fr w w1 v (.slice (some ⟨g, 0, none⟩) n cap) :=
  h.trans ⟨hg, by
    rcases hat with e | e
    · exact .inl (by rw [e]; rfl)
    · exact .inr ⟨g, rfl, by omega⟩⟩

theorem Fr.below {w w1 : World} {v v1 : Value} (h : Fr w w1 v v1) {B : Nat} {e : TypeId} {size n : Nat} {xs : List Value} (ho : w.ownsRow B e size v n xs) (hB : B ≤ w.heap.size) : Below B w w1 :=
  (Below.refl B w).grown h.1 hB (fun k hk => (ho.lt k hk).1)

theorem Fr.cell {w w1 : World} {v v1 : Value} (h : Fr w w1 v v1) (b o : Nat) (hb : b < w.heap.size) (hne : v.ownBlock ≠ some b) : w1.cell? ⟨b, o, none⟩ = w.cell? ⟨b, o, none⟩ :=
  h.1.cell_far ⟨b, o, none⟩ hb (fun e => hne e.symm)

theorem info5 : ∃ i, Try.prog.info? 5 = some i ∧ i.zero = some (.int .u8 0) ∧ i.size = 1 ∧ i.bytes = 1 :=
  info_parts (by kernel_rfl)

set_option maxHeartbeats 8000000 in
set_option maxRecDepth 100000 in
theorem auv15 (B n x : Nat) (hx : x < 18446744073709551616) (sv : Value) (xs : List Value) (w : World) (hown : w.ownsRow B 5 1 sv n xs) (hBw : B ≤ w.heap.size) (hlim : n + 10 ≤ 140737488355328) :
    Calls Try.prog 15 #[sv, .int .u64 x] w fun e w' => ∃ v', e = .returned v' ∧ w'.ownsRow B 5 1 v' (n + (Lib.uvarint x).length) (xs ++ Lib.byteCells (Lib.uvarint x)) ∧ Fr w w' sv v' := by
  obtain ⟨i0, hi, hz0, hz1, hz2⟩ := info5
  have hlen := Lib.uvarint_length64 hx
  go_enter Try.func15, Try.ntmps15
  go_wp2
  go_loopw [0, 1] (fun vb vx wr => ∃ (y : Nat) (pre : List UInt8), vx = .int .u64 y ∧ y ≤ x ∧ Lib.uvarint x = pre ++ Lib.uvarint y ∧ wr.ownsRow B 5 1 vb (n + pre.length) (xs ++ Lib.byteCells pre) ∧ Fr w wr sv vb)
    (fun _ vx _ => (intOf vx).toNat)
  case atStart => exact ⟨x, [], rfl, Nat.le_refl _, rfl, by simpa [Lib.byteCells] using hown, Fr.refl _ _⟩
  case round =>
    obtain ⟨y, pre, rfl, hy, hsplit, hown1, hfr⟩ := hrel
    have hsz := hfr.1.size
    have hpl : pre.length + (Lib.uvarint y).length ≤ 10 := by
      have h2 := congrArg List.length hsplit
      rw [List.length_append] at h2
      omega
    have hyp := Lib.uvarint_pos y
    by_cases h128 : 128 ≤ y
    · have hor : bits .or .u8 ((y : Int) % 256) 128 = ((y % 128 + 128 : Nat) : Int) := by
        rw [Lib.u8_or128_any _ (by omega) (by omega)]
        omega
      go_wp2_with (at_builtin; refine wpList_append_lies _ rfl _ _ 23 rfl B 5 i0 (.int .u8 0) 1 1 Try.underlying23 hi hz0 hz1 hz2 rfl (by decide) _ _ _ rfl (hown1.alloc _) ⟨wr.heap.size, 0, none⟩ 1 1 [Value.int .u8 ((y % 128 + 128 : Nat) : Int)] rfl rfl ?c1 ?c2 (by decide) ?c3 ?c4 ?c5 _ rfl ?_)
      case c1 =>
        intro j u hj
        match j, hj with
        | 0, hj => simp at hj; subst hj; simp [Addr.add]
      case c2 => intro u hu; simp at hu; subst hu; rfl
      case c3 => unfold maxLen; omega
      case c4 => omega
      case c5 => simp; omega
      intro g cap w1 hown' hgrow hat hlt
      have hfr1 := (hfr.alloc _).app (n := n + pre.length + 1) (cap := cap) hgrow (by simpa using hat)
      clear hgrow hat
      go_wp2
      go_roundw
      case rel =>
        refine ⟨y / 128, pre ++ [(y % 128 + 128).toUInt8], by go_num, by omega, by rw [hsplit, Lib.uvarint_big h128]; simp, ?_, hfr1⟩
        have ec : ((y % 128 + 128 : Nat) : Int) = (y : Int) % 128 + 128 := by omega
        rw [Lib.byteCells_snoc pre (by omega), List.length_append, List.length_singleton, ← Nat.add_assoc, ec]
        exact hown'
      case measure => simp [intOf]; omega
    · have hsm : Lib.uvarint y = [y.toUInt8] := Lib.uvarint_small (by omega)
      go_wp2_with (at_builtin; refine wpList_append_lies _ rfl _ _ 23 rfl B 5 i0 (.int .u8 0) 1 1 Try.underlying23 hi hz0 hz1 hz2 rfl (by decide) _ _ _ rfl (hown1.alloc _) ⟨wr.heap.size, 0, none⟩ 1 1 [Value.int .u8 (y : Int)] rfl rfl ?c1 ?c2 (by decide) ?c3 ?c4 ?c5 _ rfl ?_)
      case c1 =>
        intro j u hj
        match j, hj with
        | 0, hj => simp at hj; subst hj; simp [Addr.add]
      case c2 => intro u hu; simp at hu; subst hu; rfl
      case c3 => unfold maxLen; omega
      case c4 => omega
      case c5 => simp; omega
      intro g cap w1 hown' hgrow hat hlt
      have hfr1 := (hfr.alloc _).app (n := n + pre.length + 1) (cap := cap) hgrow (by simpa using hat)
      clear hgrow hat
      go_wp2
      go_ret
      refine ⟨_, rfl, ?_, hfr1⟩
      rw [hsplit, hsm, Lib.byteCells_snoc pre (by omega), List.length_append, List.length_singleton, ← Nat.add_assoc]
      exact hown'

theorem auv14 (B n x : Nat) (hx : x < 18446744073709551616) (sv : Value) (xs : List Value) (w : World) (hown : w.ownsRow B 5 1 sv n xs) (hBw : B ≤ w.heap.size) (hlim : n + 10 ≤ 140737488355328) :
    Calls Try.prog 14 #[sv, .int .u64 x] w fun e w' => ∃ v', e = .returned v' ∧ w'.ownsRow B 5 1 v' (n + (Lib.uvarint x).length) (xs ++ Lib.byteCells (Lib.uvarint x)) ∧ Fr w w' sv v' := by
  go_enter Try.func14, Try.ntmps14
  go_wp2_with (go_at_call 15; refine (auv15 B n x hx sv xs w hown hBw hlim).mono ?_; rintro e w' ⟨v', rfl, h1, h2⟩)
  go_ret
  exact ⟨v', rfl, h1, h2⟩

end Go.Proofs.Qxb6609264a
