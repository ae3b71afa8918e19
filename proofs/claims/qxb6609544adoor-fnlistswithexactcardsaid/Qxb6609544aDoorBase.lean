/- The words of this seat: addresses, ranges, entries; what a call that only makes memory leaves behind; cmp4 and cmpRange. -/
import Derived.Test.Qxb6609544aDoorProg
import Derived.Lib.Walk
import Derived.Deep.RegionHeld3
import Derived.Deep.QuietTactic
import Derived.BigQuiet
import Derived.WalkKit
import Derived.WalkSpells
namespace Go.Proofs.Qxb6609544aDoor
open Go.RowKit

theorem hide {p : Prop} (h : p) : Hid p := h
theorem ret_int {k : IntKind} {a b : Int} (h : a = b) : Ending.returned (.int k a) = .returned (.int k b) := by rw [h]

/-- An IPv4 address: its four bytes. -/
structure Ad where
  a : Nat
  b : Nat
  c : Nat
  d : Nat
/-- The number that they spell. -/
def Ad.num (x : Ad) : Nat := x.a * 16777216 + x.b * 65536 + x.c * 256 + x.d
def Ad.ok (x : Ad) : Prop := x.a < 256 ∧ x.b < 256 ∧ x.c < 256 ∧ x.d < 256
def Ad.val (x : Ad) : Value := .agg #[.int .u8 x.a, .int .u8 x.b, .int .u8 x.c, .int .u8 x.d]
/-- A range. -/
structure Rg where
  f : Ad
  l : Ad
def Rg.ok (r : Rg) : Prop := r.f.ok ∧ r.l.ok
def Rg.cells (r : Rg) : List Value := [.int .u8 r.f.a, .int .u8 r.f.b, .int .u8 r.f.c, .int .u8 r.f.d, .int .u8 r.l.a, .int .u8 r.l.b, .int .u8 r.l.c, .int .u8 r.l.d]
def Rg.val (r : Rg) : Value := .agg r.cells.toArray
/-- The low half of an IPv4 address, as net/netip holds it. -/
def lo (x : Ad) : Nat := 281470681743360 + x.num

theorem Ad.num_inj {x y : Ad} (hx : x.ok) (hy : y.ok) (h : x.num = y.num) : x = y := by
  obtain ⟨a, b, c, d⟩ := x
  obtain ⟨a', b', c', d'⟩ := y
  simp only [Ad.ok, Ad.num] at *
  have h1 : a = a' := by omega
  have h2 : b = b' := by omega
  have h3 : c = c' := by omega
  have h4 : d = d' := by omega
  rw [h1, h2, h3, h4]

theorem Ad.num_lt {x : Ad} (hx : x.ok) : x.num < 4294967296 := by
  unfold Ad.ok at hx; unfold Ad.num; omega

/-- -1, 0, 1: as numbers compare. -/
def cmpN (a b : Nat) : Int := if a < b then -1 else if b < a then 1 else 0

theorem cmpN_lt {a b : Nat} (h : a < b) : cmpN a b = -1 := by unfold cmpN; rw [if_pos h]
theorem cmpN_gt {a b : Nat} (h : b < a) : cmpN a b = 1 := by unfold cmpN; rw [if_neg (by omega), if_pos h]
theorem cmpN_eq {a b : Nat} (h : a = b) : cmpN a b = 0 := by unfold cmpN; rw [if_neg (by omega), if_neg (by omega)]

/-- By first address, then by last. -/
def cmpR (r s : Rg) : Int := if r.f.num = s.f.num then cmpN r.l.num s.l.num else cmpN r.f.num s.f.num

/-- The world has new blocks and has drawn: nothing else has turned. -/
def Gr (w w' : World) : Prop := Below w.heap.size w w' ∧ w.drawn ≤ w'.drawn

theorem Gr.refl (w : World) : Gr w w := ⟨Below.refl _ _, Nat.le_refl _⟩
theorem Gr.trans {a b c : World} (h : Gr a b) (k : Gr b c) : Gr a c := ⟨h.1.trans (k.1.mono h.1.size), Nat.le_trans h.2 k.2⟩
theorem Gr.alloc {a w : World} (h : Gr a w) (o : Obj) : Gr a (w.alloc o) := ⟨h.1.alloc h.1.size o, h.2⟩
theorem Gr.drew {a w : World} (h : Gr a w) : Gr a w.drew := ⟨h.1.drew, Nat.le_succ_of_le h.2⟩
theorem Gr.drewN {a w : World} (h : Gr a w) (n : Nat) : Gr a (w.drewN n) := ⟨⟨h.1.os, h.1.tape, h.1.output, h.1.size, h.1.block⟩, Nat.le_trans h.2 (Nat.le_add_right _ _)⟩
theorem Gr.setCell {a w : World} (h : Gr a w) {p : Addr} (hp : a.heap.size ≤ p.block) (v : Value) : Gr a (w.setCell p v) := ⟨h.1.setCell hp v, h.2⟩
theorem Gr.cell {a w : World} (h : Gr a w) {p : Addr} {v : Value} (hp : a.cell? p = some v) : w.cell? p = some v :=
  (h.1.cell (World.block_lt_of_cell? _ _ hp)).trans hp
theorem Gr.rules {W w1 : World} (h : Gr W w1) : (∀ b o, b < W.heap.size → w1.cell? ⟨b, o, none⟩ = W.cell? ⟨b, o, none⟩) ∧ (∀ b o, b < W.heap.size → w1.frozen? ⟨b, o, none⟩ = W.frozen? ⟨b, o, none⟩) :=
  ⟨fun b o hb => h.1.cell (p := ⟨b, o, none⟩) hb, fun b o hb => h.1.frozen (p := ⟨b, o, none⟩) hb⟩
theorem Gr.size {a w : World} (h : Gr a w) : a.heap.size ≤ w.heap.size := h.1.size

theorem Gr.blk {W w1 : World} (g : Gr W w1) {b : Nat} {o : Obj} (h : W.heap[b]? = some o) : w1.heap[b]? = some o :=
  (g.1.block b (Array.getElem?_eq_some_iff.1 h).1).trans h
/-- A whole block's cells. -/
theorem blkC {w : World} {b : Nat} {cs : Array Value} {t : TypeId} (h : w.heap[b]? = some (.cells cs t (0, 0))) : (∀ j, w.cell? ⟨b, j, none⟩ = cs[j]?) ∧ (∀ j, w.frozen? ⟨b, j, none⟩ = false) :=
  ⟨fun j => cell_of_row w b j cs t (0, 0) h, fun j => by simp [World.frozen?, h]⟩
theorem new1 (w : World) (a : Obj) : (w.alloc a).heap[w.heap.size]? = some a := heap_alloc_new w a
theorem new2 (w : World) (a b : Obj) : ((w.alloc a).alloc b).heap[w.heap.size + 1]? = some b := by simpa using heap_alloc_new (w.alloc a) b
theorem new3 (w : World) (a b c : Obj) : (((w.alloc a).alloc b).alloc c).heap[w.heap.size + 2]? = some c := by simpa using heap_alloc_new ((w.alloc a).alloc b) c
theorem new2a (w : World) (a b : Obj) : ((w.alloc a).alloc b).heap[w.heap.size]? = some a := ((Gr.refl (w.alloc a)).alloc b).blk (new1 w a)
theorem new3a (w : World) (a b c : Obj) : (((w.alloc a).alloc b).alloc c).heap[w.heap.size]? = some a := ((Gr.refl ((w.alloc a).alloc b)).alloc c).blk (new2a w a b)
theorem new3b (w : World) (a b c : Obj) : (((w.alloc a).alloc b).alloc c).heap[w.heap.size + 1]? = some b := ((Gr.refl ((w.alloc a).alloc b)).alloc c).blk (new2 w a b)
theorem Gr.keep2 {W w1 : World} {p0 p1 : Addr} {v0 v1 : Value} (g : Gr W w1) (h : W.cell? p0 = some v0 ∧ W.cell? p1 = some v1) : w1.cell? p0 = some v0 ∧ w1.cell? p1 = some v1 := by
  obtain ⟨h0, h1⟩ := h
  exact ⟨g.cell h0, g.cell h1⟩
theorem Gr.keep3 {W w1 : World} {p0 p1 p2 : Addr} {v0 v1 v2 : Value} (g : Gr W w1) (h : W.cell? p0 = some v0 ∧ W.cell? p1 = some v1 ∧ W.cell? p2 = some v2) : w1.cell? p0 = some v0 ∧ w1.cell? p1 = some v1 ∧ w1.cell? p2 = some v2 := by
  obtain ⟨h0, h1, h2⟩ := h
  exact ⟨g.cell h0, g.cell h1, g.cell h2⟩
theorem Gr.keep4 {W w1 : World} {p0 p1 p2 p3 : Addr} {v0 v1 v2 v3 : Value} (g : Gr W w1) (h : W.cell? p0 = some v0 ∧ W.cell? p1 = some v1 ∧ W.cell? p2 = some v2 ∧ W.cell? p3 = some v3) : w1.cell? p0 = some v0 ∧ w1.cell? p1 = some v1 ∧ w1.cell? p2 = some v2 ∧ w1.cell? p3 = some v3 := by
  obtain ⟨h0, h1, h2, h3⟩ := h
  exact ⟨g.cell h0, g.cell h1, g.cell h2, g.cell h3⟩
theorem Gr.keep6 {W w1 : World} {p0 p1 p2 p3 p4 p5 : Addr} {v0 v1 v2 v3 v4 v5 : Value} (g : Gr W w1) (h : W.cell? p0 = some v0 ∧ W.cell? p1 = some v1 ∧ W.cell? p2 = some v2 ∧ W.cell? p3 = some v3 ∧ W.cell? p4 = some v4 ∧ W.cell? p5 = some v5) : w1.cell? p0 = some v0 ∧ w1.cell? p1 = some v1 ∧ w1.cell? p2 = some v2 ∧ w1.cell? p3 = some v3 ∧ w1.cell? p4 = some v4 ∧ w1.cell? p5 = some v5 := by
  obtain ⟨h0, h1, h2, h3, h4, h5⟩ := h
  exact ⟨g.cell h0, g.cell h1, g.cell h2, g.cell h3, g.cell h4, g.cell h5⟩
theorem Gr.keep8 {W w1 : World} {p0 p1 p2 p3 p4 p5 p6 p7 : Addr} {v0 v1 v2 v3 v4 v5 v6 v7 : Value} (g : Gr W w1) (h : W.cell? p0 = some v0 ∧ W.cell? p1 = some v1 ∧ W.cell? p2 = some v2 ∧ W.cell? p3 = some v3 ∧ W.cell? p4 = some v4 ∧ W.cell? p5 = some v5 ∧ W.cell? p6 = some v6 ∧ W.cell? p7 = some v7) : w1.cell? p0 = some v0 ∧ w1.cell? p1 = some v1 ∧ w1.cell? p2 = some v2 ∧ w1.cell? p3 = some v3 ∧ w1.cell? p4 = some v4 ∧ w1.cell? p5 = some v5 ∧ w1.cell? p6 = some v6 ∧ w1.cell? p7 = some v7 := by
  obtain ⟨h0, h1, h2, h3, h4, h5, h6, h7⟩ := h
  exact ⟨g.cell h0, g.cell h1, g.cell h2, g.cell h3, g.cell h4, g.cell h5, g.cell h6, g.cell h7⟩
theorem Gr.keep9 {W w1 : World} {p0 p1 p2 p3 p4 p5 p6 p7 p8 : Addr} {v0 v1 v2 v3 v4 v5 v6 v7 v8 : Value} (g : Gr W w1) (h : W.cell? p0 = some v0 ∧ W.cell? p1 = some v1 ∧ W.cell? p2 = some v2 ∧ W.cell? p3 = some v3 ∧ W.cell? p4 = some v4 ∧ W.cell? p5 = some v5 ∧ W.cell? p6 = some v6 ∧ W.cell? p7 = some v7 ∧ W.cell? p8 = some v8) : w1.cell? p0 = some v0 ∧ w1.cell? p1 = some v1 ∧ w1.cell? p2 = some v2 ∧ w1.cell? p3 = some v3 ∧ w1.cell? p4 = some v4 ∧ w1.cell? p5 = some v5 ∧ w1.cell? p6 = some v6 ∧ w1.cell? p7 = some v7 ∧ w1.cell? p8 = some v8 := by
  obtain ⟨h0, h1, h2, h3, h4, h5, h6, h7, h8⟩ := h
  exact ⟨g.cell h0, g.cell h1, g.cell h2, g.cell h3, g.cell h4, g.cell h5, g.cell h6, g.cell h7, g.cell h8⟩
theorem Gr.keep12 {W w1 : World} {p0 p1 p2 p3 p4 p5 p6 p7 p8 p9 p10 p11 : Addr} {v0 v1 v2 v3 v4 v5 v6 v7 v8 v9 v10 v11 : Value} (g : Gr W w1) (h : W.cell? p0 = some v0 ∧ W.cell? p1 = some v1 ∧ W.cell? p2 = some v2 ∧ W.cell? p3 = some v3 ∧ W.cell? p4 = some v4 ∧ W.cell? p5 = some v5 ∧ W.cell? p6 = some v6 ∧ W.cell? p7 = some v7 ∧ W.cell? p8 = some v8 ∧ W.cell? p9 = some v9 ∧ W.cell? p10 = some v10 ∧ W.cell? p11 = some v11) : w1.cell? p0 = some v0 ∧ w1.cell? p1 = some v1 ∧ w1.cell? p2 = some v2 ∧ w1.cell? p3 = some v3 ∧ w1.cell? p4 = some v4 ∧ w1.cell? p5 = some v5 ∧ w1.cell? p6 = some v6 ∧ w1.cell? p7 = some v7 ∧ w1.cell? p8 = some v8 ∧ w1.cell? p9 = some v9 ∧ w1.cell? p10 = some v10 ∧ w1.cell? p11 = some v11 := by
  obtain ⟨h0, h1, h2, h3, h4, h5, h6, h7, h8, h9, h10, h11⟩ := h
  exact ⟨g.cell h0, g.cell h1, g.cell h2, g.cell h3, g.cell h4, g.cell h5, g.cell h6, g.cell h7, g.cell h8, g.cell h9, g.cell h10, g.cell h11⟩

set_option maxHeartbeats 4000000 in
theorem cmp4 (x y : Ad) (hx : x.ok) (hy : y.ok) (w : World) :
    Calls Tryd.prog 25 #[x.val, y.val] w fun e w' => e = .returned (.int .i64 (cmpN x.num y.num)) ∧ Gr w w' := by
  obtain ⟨x0, x1, x2, x3⟩ := x
  obtain ⟨y0, y1, y2, y3⟩ := y
  simp only [Ad.ok, Ad.num, Ad.val] at *
  obtain ⟨hx0, hx1, hx2, hx3⟩ := hx
  obtain ⟨hy0, hy1, hy2, hy3⟩ := hy
  obtain ⟨r, hr⟩ : ∃ r, cmpN (x0 * 16777216 + x1 * 65536 + x2 * 256 + x3) (y0 * 16777216 + y1 * 65536 + y2 * 256 + y3) = r := ⟨_, rfl⟩
  rw [hr]
  have HR := hide hr
  clear hr
  go_enter Tryd.func25, Tryd.ntmps25
  go_wp2
  go_loopw [5] (fun vi wr => ∃ k : Nat, k ≤ 4 ∧ vi = .int .i64 k ∧ Hid ((1 ≤ k → x0 = y0) ∧ (2 ≤ k → x1 = y1) ∧ (3 ≤ k → x2 = y2) ∧ (4 ≤ k → x3 = y3)) ∧ ∃ q, wr = ((w.alloc (.cells #[.int .u8 x0, .int .u8 x1, .int .u8 x2, .int .u8 x3] 35)).alloc (.cells #[.int .u8 y0, .int .u8 y1, .int .u8 y2, .int .u8 y3] 35)).drewN q) (fun vi _ => 4 - (intOf vi).toNat)
  case atStart => exact ⟨0, by omega, rfl, ⟨by omega, by omega, by omega, by omega⟩, 0, rfl⟩
  case round =>
    have hG : ∀ q, Gr w (((w.alloc (.cells #[.int .u8 x0, .int .u8 x1, .int .u8 x2, .int .u8 x3] 35)).alloc (.cells #[.int .u8 y0, .int .u8 y1, .int .u8 y2, .int .u8 y3] 35)).drewN q) := fun q => (((Gr.refl w).alloc _).alloc _).drewN q
    obtain ⟨k, hk, rfl, hq, q, rfl⟩ := hrel
    have hks : k = 0 ∨ k = 1 ∨ k = 2 ∨ k = 3 ∨ k = 4 := by omega
    rcases hks with rfl | rfl | rfl | rfl | rfl
    · go_wp2
      go_quiet (fail)
      go_wp2
      · go_ret
        exact ⟨ret_int (by rw [← HR.out, cmpN_lt]; have := hq.out; omega), by first | exact hG _ | exact (hG _).drewN _ | exact ((hG _).drewN _).drewN _⟩
      · go_quiet (fail)
        go_wp2
        · go_ret
          exact ⟨ret_int (by rw [← HR.out, cmpN_gt]; have := hq.out; omega), by first | exact hG _ | exact (hG _).drewN _ | exact ((hG _).drewN _).drewN _⟩
        · go_roundw
          case rel => exact ⟨1, by omega, by go_num, by have := hq.out; exact ⟨by omega, by omega, by omega, by omega⟩, _, rfl⟩
          case measure => simp [intOf]
    · go_wp2
      go_quiet (fail)
      go_wp2
      · go_ret
        exact ⟨ret_int (by rw [← HR.out, cmpN_lt]; have := hq.out; omega), by first | exact hG _ | exact (hG _).drewN _ | exact ((hG _).drewN _).drewN _⟩
      · go_quiet (fail)
        go_wp2
        · go_ret
          exact ⟨ret_int (by rw [← HR.out, cmpN_gt]; have := hq.out; omega), by first | exact hG _ | exact (hG _).drewN _ | exact ((hG _).drewN _).drewN _⟩
        · go_roundw
          case rel => exact ⟨2, by omega, by go_num, by have := hq.out; exact ⟨by omega, by omega, by omega, by omega⟩, _, rfl⟩
          case measure => simp [intOf]
    · go_wp2
      go_quiet (fail)
      go_wp2
      · go_ret
        exact ⟨ret_int (by rw [← HR.out, cmpN_lt]; have := hq.out; omega), by first | exact hG _ | exact (hG _).drewN _ | exact ((hG _).drewN _).drewN _⟩
      · go_quiet (fail)
        go_wp2
        · go_ret
          exact ⟨ret_int (by rw [← HR.out, cmpN_gt]; have := hq.out; omega), by first | exact hG _ | exact (hG _).drewN _ | exact ((hG _).drewN _).drewN _⟩
        · go_roundw
          case rel => exact ⟨3, by omega, by go_num, by have := hq.out; exact ⟨by omega, by omega, by omega, by omega⟩, _, rfl⟩
          case measure => simp [intOf]
    · go_wp2
      go_quiet (fail)
      go_wp2
      · go_ret
        exact ⟨ret_int (by rw [← HR.out, cmpN_lt]; have := hq.out; omega), by first | exact hG _ | exact (hG _).drewN _ | exact ((hG _).drewN _).drewN _⟩
      · go_quiet (fail)
        go_wp2
        · go_ret
          exact ⟨ret_int (by rw [← HR.out, cmpN_gt]; have := hq.out; omega), by first | exact hG _ | exact (hG _).drewN _ | exact ((hG _).drewN _).drewN _⟩
        · go_roundw
          case rel => exact ⟨4, by omega, by go_num, by have := hq.out; exact ⟨by omega, by omega, by omega, by omega⟩, _, rfl⟩
          case measure => simp [intOf]
    · go_wp2
      go_ret
      exact ⟨ret_int (by rw [← HR.out, cmpN_eq]; have := hq.out; omega), hG _⟩
end Go.Proofs.Qxb6609544aDoor
