import Derived.Test.Qxb6609544aDoorComp2
namespace Go.Proofs.Qxb6609544aDoor
open Go.RowKit Go.Sort

/-- What join reads of a child: its block, its size, its reach. -/
abbrev Ch := Option (Nat × Nat × Nat)
def Ch.ptr : Ch → Value
  | none => .pointer none
  | some (b, _, _) => .pointer (some ⟨b, 0, none⟩)
theorem Ch.ptrE (c : Ch) : ∃ p, c.ptr = .pointer p := by
  cases c with
  | none => exact ⟨_, rfl⟩
  | some c => exact ⟨_, rfl⟩
def Ch.At (pz : Addr) (w : World) : Ch → Prop
  | none => True
  | some (b, s, r) => w.cell? ⟨b, 8, none⟩ = some (.int .i64 s) ∧ w.cell? ⟨b, 9, none⟩ = some (.int .u64 0) ∧ w.cell? ⟨b, 10, none⟩ = some (.int .u64 r) ∧ w.cell? ⟨b, 11, none⟩ = some (.pointer (some pz)) ∧ s ≤ 1048576 ∧ ∃ x : Ad, r = lo x
def upS (s : Nat) : Ch → Nat
  | none => s
  | some (_, s', _) => s + s'
def upR (r : Nat) : Ch → Nat
  | none => r
  | some (_, _, r') => if r < r' then r' else r
/-- A node's cells. -/
def ndC (pz : Addr) (xf xl : Nat) (p q : Value) (s r : Nat) : Array Value := #[.int .u64 0, .int .u64 xf, .pointer (some pz), .int .u64 0, .int .u64 xl, .pointer (some pz), p, q, .int .i64 s, .int .u64 0, .int .u64 r, .pointer (some pz)]

theorem compareN (p q : Nat) (pz : Addr) (hp : ∃ x : Ad, p = lo x) (hq : ∃ x : Ad, q = lo x) (w : World) (hz : Zs pz w) :
    Calls Tryd.prog 50 #[.agg #[.int .u64 0, .int .u64 p, .pointer (some pz)], .agg #[.int .u64 0, .int .u64 q, .pointer (some pz)]] w fun e w' => e = .returned (.int .i64 (cmpN p q)) ∧ Gr w w' := by
  obtain ⟨x, rfl⟩ := hp
  obtain ⟨y, rfl⟩ := hq
  exact compare x y pz w hz

theorem ndS {w : World} {b : Nat} {pz : Addr} {xf xl s s' r : Nat} {p q : Value} (h : w.heap[b]? = some (.cells (ndC pz xf xl p q s r) 70 (0, 0))) : ((w.setCell ⟨b, 8, none⟩ (.int .i64 ((s : Int) + s'))).drew).heap[b]? = some (.cells (ndC pz xf xl p q (s + s') r) 70 (0, 0)) := by
  have := Lib.heap_setCell_same h (i := 8) (.int .i64 ((s : Int) + s'))
  show (w.setCell ⟨b, 8, none⟩ (.int .i64 ((s : Int) + s'))).heap[b]? = _
  simpa [ndC] using this
theorem ndR {w : World} {b : Nat} {pz : Addr} {xf xl s r r' : Nat} {p q : Value} (h : w.heap[b]? = some (.cells (ndC pz xf xl p q s r) 70 (0, 0))) : (((w.setCell ⟨b, 9, none⟩ (.int .u64 0)).setCell ⟨b, 10, none⟩ (.int .u64 r')).setCell ⟨b, 11, none⟩ (.pointer (some pz))).heap[b]? = some (.cells (ndC pz xf xl p q s r') 70 (0, 0)) := by
  have := Lib.heap_setCell_same (Lib.heap_setCell_same (Lib.heap_setCell_same h (i := 9) (.int .u64 0)) (i := 10) (.int .u64 r')) (i := 11) (.pointer (some pz))
  simpa [ndC] using this
theorem ndK {w : World} {b : Nat} {pz : Addr} {xf xl s r : Nat} {p q : Value} (h : w.heap[b]? = some (.cells (ndC pz xf xl p q s r) 70 (0, 0))) :
    (w.cell? ⟨b, 8, none⟩ = some (.int .i64 s) ∧ w.cell? ⟨b, 9, none⟩ = some (.int .u64 0) ∧ w.cell? ⟨b, 10, none⟩ = some (.int .u64 r) ∧ w.cell? ⟨b, 11, none⟩ = some (.pointer (some pz))) ∧
    (w.frozen? ⟨b, 8, none⟩ = false ∧ w.frozen? ⟨b, 9, none⟩ = false ∧ w.frozen? ⟨b, 10, none⟩ = false ∧ w.frozen? ⟨b, 11, none⟩ = false) := by
  obtain ⟨k1, k2⟩ := blkC h
  exact ⟨⟨k1 8, k1 9, k1 10, k1 11⟩, k2 8, k2 9, k2 10, k2 11⟩
theorem ndL {w : World} {b : Nat} {o : Obj} (h : w.heap[b]? = some o) : b < w.heap.size := (Array.getElem?_eq_some_iff.1 h).1

theorem idx0 (p q : Option Addr) (w : World) : (Instr.index 109 (.agg #[.pointer p, .pointer q]) (.int .i64 0)).run Tryd.prog w = .ok (.pointer p) w := by kernel_rfl
theorem idx1 (p q : Option Addr) (w : World) : (Instr.index 109 (.agg #[.pointer p, .pointer q]) (.int .i64 1)).run Tryd.prog w = .ok (.pointer q) w := by kernel_rfl

set_option maxHeartbeats 2000000 in
theorem joinN (pz : Addr) (xf xl : Nat) (c1 c2 : Ch) (w : World) (hz : Zs pz w) (h1 : c1.At pz w) (h2 : c2.At pz w) (hxl : ∃ x : Ad, xl = lo x) :
    Calls Tryd.prog 53 #[c1.ptr, .agg #[.int .u64 0, .int .u64 xf, .pointer (some pz), .int .u64 0, .int .u64 xl, .pointer (some pz)], c2.ptr] w fun e w' =>
      e = .returned (.pointer (some ⟨w.heap.size + 1, 0, none⟩)) ∧ w'.heap[w.heap.size + 1]? = some (.cells (ndC pz xf xl c1.ptr c2.ptr (upS (upS 1 c1) c2) (upR (upR xl c1) c2)) 70 (0, 0)) ∧ Gr w w' := by
  have C := hide (fun W p q hp hq hz => compareN p q pz hp hq W hz)
  have ix0 := idx0
  have ix1 := idx1
  have hm := mixed
  have hq := cellQ
  have HZ := hide hz
  have H1 := hide h1
  have H2 := hide h2
  have HX := hide hxl
  clear hz h1 h2 hxl
  obtain ⟨p1, hp1⟩ : ∃ p1, c1.ptr = .pointer p1 := c1.ptrE
  obtain ⟨p2, hp2⟩ : ∃ p2, c2.ptr = .pointer p2 := c2.ptrE
  rw [hp1, hp2]
  go_enter Tryd.func53, Tryd.ntmps53
  go_wp2
  go_loopw [20] (fun vi wr => ∃ i s r : Nat, i ≤ 2 ∧ vi = .int .i64 i ∧ Gr w wr ∧ wr.heap[w.heap.size + 1]? = some (.cells (ndC pz xf xl (.pointer p1) (.pointer p2) s r) 70 (0, 0)) ∧ Hid (s ≤ 1 + i * 1048576) ∧ Hid ((∃ x : Ad, r = lo x) ∧ (i = 0 → s = 1 ∧ r = xl) ∧ (i = 1 → s = upS 1 c1 ∧ r = upR xl c1) ∧ (i = 2 → s = upS (upS 1 c1) c2 ∧ r = upR (upR xl c1) c2))) (fun vi _ => 2 - (intOf vi).toNat)
  case atStart => exact ⟨0, 1, xl, by omega, rfl, ((Gr.refl w).alloc _).alloc _, new2 w _ _, hide (by omega), HX.out, fun _ => ⟨rfl, rfl⟩, fun h => by omega, fun h => by omega⟩
  case round =>
    obtain ⟨i, s, r, hi, rfl, hg, hb, hs, hr⟩ := hrel
    have hks : i = 0 ∨ i = 1 ∨ i = 2 := by omega
    rcases hks with rfl | rfl | rfl
    · have X := hide hr.out.1
      have E := hide (hr.out.2.1 rfl)
      clear hr
      cases c1 with
      | none =>
        obtain rfl : none = p1 := Value.pointer.inj hp1
        clear hp1 hp2
        go_wp2
        go_roundw
        case rel => exact ⟨1, s, r, by omega, by go_num, hg, hb, hide (by have := hs.out; omega), X.out, fun h => by omega, fun _ => ⟨by rw [E.out.1]; rfl, by rw [E.out.2]; rfl⟩, fun h => by omega⟩
        case measure => simp [intOf]
      | some c =>
        obtain ⟨b, s', r'⟩ := c
        obtain rfl : some _ = p1 := Value.pointer.inj hp1
        clear hp1 hp2
        obtain ⟨y0, y1, y2, y3, y4, y5⟩ := H1.out
        have Y := hide (And.intro y0 (And.intro y1 (And.intro y2 y3)))
        replace y0 := hg.cell y0
        clear y1 y2 y3
        have hsI : (s : Int) ≤ 2097153 := by have := hs.out; omega
        have y4I : (s' : Int) ≤ 1048576 := by omega
        have Y4 := hide y4
        have Y5 := hide y5
        clear y4 y5
        obtain ⟨⟨c8, _⟩, f8, _⟩ := ndK hb
        go_wp2_with fail
        go_region
        have hb2 := ndS (s' := s') hb
        have hg2 : Gr w ((wr.setCell ⟨w.heap.size + 1, 8, none⟩ (.int .i64 ((s : Int) + s'))).drew) := (hg.setCell (Nat.le_succ _) _).drew
        generalize (wr.setCell ⟨w.heap.size + 1, 8, none⟩ (.int .i64 ((s : Int) + s'))).drew = wr2 at *
        clear hb hg y0 c8 f8
        have hl2 := ndL hb2
        obtain ⟨⟨_, c9, c10, c11⟩, _, f9, f10, f11⟩ := ndK hb2
        obtain ⟨y0, y1, y2, y3⟩ := Y.out
        replace y1 := hg2.cell y1
        replace y2 := hg2.cell y2
        replace y3 := hg2.cell y3
        have hl3 : b < wr2.heap.size := World.block_lt_of_cell? _ _ y1
        clear y0
        go_wp2_with fail
        refine wp_region_quiet_grown hm (by kernel_rfl) ?_
        repeat (quiet_step (first | (go_at_call 50; exact callsQ (C.out _ _ _ Y5.out X.out (HZ.out.gr (hg2.trans (Gr.of _ _ _)))))))
        refine wpQuiet_nil ?_
        intro w1 hw1
        have g1 := Gr.ofEx hw1
        clear hw1
        have hg3 := hg2.trans g1
        have hb3 := g1.blk hb2
        replace y1 := g1.cell y1
        replace y2 := g1.cell y2
        replace y3 := g1.cell y3
        clear c9 c10 c11 f9 f10 f11 hl2 hl3
        obtain ⟨⟨_, c9, c10, c11⟩, _, f9, f10, f11⟩ := ndK hb3
        by_cases hlt : r < r'
        · rw [cmpN_gt hlt]
          go_wp2
          go_roundw
          case rel => exact ⟨1, s + s', r', by omega, by go_num, ((hg3.setCell (Nat.le_succ _) _).setCell (Nat.le_succ _) _).setCell (Nat.le_succ _) _, ndR hb3, hide (by have := hs.out; have := Y4.out; omega), Y5.out, fun h => by omega, fun _ => ⟨by rw [E.out.1]; rfl, by have e := E.out.2; rw [e] at hlt; rw [show upR xl (some (b, s', r')) = if xl < r' then r' else xl from rfl, if_pos hlt]⟩, fun h => by omega⟩
          case measure => simp [intOf]
        · have hle : cmpN r' r ≤ 0 := by unfold cmpN; split <;> (try split) <;> omega
          generalize cmpN r' r = cc at *
          go_wp2
          go_roundw
          case rel => exact ⟨1, s + s', r, by omega, by go_num, hg3, hb3, hide (by have := hs.out; have := Y4.out; omega), X.out, fun h => by omega, fun _ => ⟨by rw [E.out.1]; rfl, by have e := E.out.2; rw [e] at hlt ⊢; rw [show upR xl (some (b, s', r')) = if xl < r' then r' else xl from rfl, if_neg hlt]⟩, fun h => by omega⟩
          case measure => simp [intOf]
    · have X := hide hr.out.1
      have E := hide (hr.out.2.2.1 rfl)
      clear hr
      cases c2 with
      | none =>
        obtain rfl : none = p2 := Value.pointer.inj hp2
        clear hp1 hp2
        go_wp2
        go_roundw
        case rel => exact ⟨2, s, r, by omega, by go_num, hg, hb, hide (by have := hs.out; omega), X.out, fun h => by omega, fun h => by omega, fun _ => ⟨by rw [E.out.1]; rfl, by rw [E.out.2]; rfl⟩⟩
        case measure => simp [intOf]
      | some c =>
        obtain ⟨b, s', r'⟩ := c
        obtain rfl : some _ = p2 := Value.pointer.inj hp2
        clear hp1 hp2
        obtain ⟨y0, y1, y2, y3, y4, y5⟩ := H2.out
        have Y := hide (And.intro y0 (And.intro y1 (And.intro y2 y3)))
        replace y0 := hg.cell y0
        clear y1 y2 y3
        have hsI : (s : Int) ≤ 2097153 := by have := hs.out; omega
        have y4I : (s' : Int) ≤ 1048576 := by omega
        have Y4 := hide y4
        have Y5 := hide y5
        clear y4 y5
        obtain ⟨⟨c8, _⟩, f8, _⟩ := ndK hb
        go_wp2_with fail
        go_region
        have hb2 := ndS (s' := s') hb
        have hg2 : Gr w ((wr.setCell ⟨w.heap.size + 1, 8, none⟩ (.int .i64 ((s : Int) + s'))).drew) := (hg.setCell (Nat.le_succ _) _).drew
        generalize (wr.setCell ⟨w.heap.size + 1, 8, none⟩ (.int .i64 ((s : Int) + s'))).drew = wr2 at *
        clear hb hg y0 c8 f8
        have hl2 := ndL hb2
        obtain ⟨⟨_, c9, c10, c11⟩, _, f9, f10, f11⟩ := ndK hb2
        obtain ⟨y0, y1, y2, y3⟩ := Y.out
        replace y1 := hg2.cell y1
        replace y2 := hg2.cell y2
        replace y3 := hg2.cell y3
        have hl3 : b < wr2.heap.size := World.block_lt_of_cell? _ _ y1
        clear y0
        go_wp2_with fail
        refine wp_region_quiet_grown hm (by kernel_rfl) ?_
        repeat (quiet_step (first | (go_at_call 50; exact callsQ (C.out _ _ _ Y5.out X.out (HZ.out.gr (hg2.trans (Gr.of _ _ _)))))))
        refine wpQuiet_nil ?_
        intro w1 hw1
        have g1 := Gr.ofEx hw1
        clear hw1
        have hg3 := hg2.trans g1
        have hb3 := g1.blk hb2
        replace y1 := g1.cell y1
        replace y2 := g1.cell y2
        replace y3 := g1.cell y3
        clear c9 c10 c11 f9 f10 f11 hl2 hl3
        obtain ⟨⟨_, c9, c10, c11⟩, _, f9, f10, f11⟩ := ndK hb3
        by_cases hlt : r < r'
        · rw [cmpN_gt hlt]
          go_wp2
          go_roundw
          case rel => exact ⟨2, s + s', r', by omega, by go_num, ((hg3.setCell (Nat.le_succ _) _).setCell (Nat.le_succ _) _).setCell (Nat.le_succ _) _, ndR hb3, hide (by have := hs.out; have := Y4.out; omega), Y5.out, fun h => by omega, fun h => by omega, fun _ => ⟨by rw [E.out.1]; rfl, by have e := E.out.2; rw [e] at hlt; rw [show upR (upR xl c1) (some (b, s', r')) = if upR xl c1 < r' then r' else upR xl c1 from rfl, if_pos hlt]⟩⟩
          case measure => simp [intOf]
        · have hle : cmpN r' r ≤ 0 := by unfold cmpN; split <;> (try split) <;> omega
          generalize cmpN r' r = cc at *
          go_wp2
          go_roundw
          case rel => exact ⟨2, s + s', r, by omega, by go_num, hg3, hb3, hide (by have := hs.out; have := Y4.out; omega), X.out, fun h => by omega, fun h => by omega, fun _ => ⟨by rw [E.out.1]; rfl, by have e := E.out.2; rw [e] at hlt ⊢; rw [show upR (upR xl c1) (some (b, s', r')) = if upR xl c1 < r' then r' else upR xl c1 from rfl, if_neg hlt]⟩⟩
          case measure => simp [intOf]
    · have E := hide (hr.out.2.2.2 rfl)
      clear hr
      go_wp2
      go_ret
      exact ⟨rfl, by rw [hb, E.out.1, E.out.2], hg⟩
end Go.Proofs.Qxb6609544aDoor
