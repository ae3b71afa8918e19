import Derived.Test.Qxb6609544aDoorChg
import Derived.Lib.EndianBits
namespace Go.Proofs.Qxb6609544aDoor
open Go.RowKit Go.Sort Go.Deep

set_option maxHeartbeats 1000000 in
theorem bePut (b : Nat) (x : Ad) (hx : x.ok) (w : World) (hb : w.heap[b]? = some (.cells #[.int .u8 0, .int .u8 0, .int .u8 0, .int .u8 0] 35 (0, 0))) :
    Calls Tryd.prog 71 #[.slice (some ⟨b, 0, none⟩) 4 4, .int .u32 x.num] w fun e w' => e = .returned (.tuple #[]) ∧ w'.heap[b]? = some (.cells #[.int .u8 x.a, .int .u8 x.b, .int .u8 x.c, .int .u8 x.d] 35 (0, 0)) ∧ (∀ k, k ≠ b → w'.heap[k]? = w.heap[k]?) ∧ (∀ a, Gr a w → a.heap.size ≤ b → Gr a w') := by
  have hn := Ad.num_lt hx
  obtain ⟨k1, k2⟩ := blkC hb
  have c0 : w.cell? ⟨b, 0, none⟩ = some (.int .u8 0) := k1 0
  have c1 : w.cell? ⟨b, 1, none⟩ = some (.int .u8 0) := k1 1
  have c2 : w.cell? ⟨b, 2, none⟩ = some (.int .u8 0) := k1 2
  have c3 : w.cell? ⟨b, 3, none⟩ = some (.int .u8 0) := k1 3
  have f0 := k2 0
  have f1 := k2 1
  have f2 := k2 2
  have f3 := k2 3
  clear k1 k2
  have hnI : (x.num : Int) < 4294967296 := by omega
  go_enter Tryd.func71, Tryd.ntmps71
  go_wp2
  go_end0
  obtain ⟨h0, h1, h2, h3⟩ := hx
  have e0 : ((x.num : Int) / 16777216) = (x.a : Nat) := by unfold Ad.num; omega
  have e1 : ((x.num : Int) / 65536 % 256) = (x.b : Nat) := by unfold Ad.num; omega
  have e2 : ((x.num : Int) / 256 % 256) = (x.c : Nat) := by unfold Ad.num; omega
  have e3 : ((x.num : Int) % 256) = (x.d : Nat) := by unfold Ad.num; omega
  rw [e0, e1, e2, e3]
  refine ⟨rfl, ?_, fun k hk => ?_, fun a G hB => (((G.setCell hB _).setCell hB _).setCell hB _).setCell hB _⟩
  · have := Lib.heap_setCell_same (Lib.heap_setCell_same (Lib.heap_setCell_same (Lib.heap_setCell_same hb (i := 0) (.int .u8 (x.a : Nat))) (i := 1) (.int .u8 (x.b : Nat))) (i := 2) (.int .u8 (x.c : Nat))) (i := 3) (.int .u8 (x.d : Nat))
    simpa using this
  · have hne : ¬ b = k := fun e => hk e.symm
    unfold World.setCell
    simp only [Array.getElem?_modify]
    rw [if_neg hne, if_neg hne, if_neg hne, if_neg hne]

set_option maxHeartbeats 2000000 in
theorem as4 (x : Ad) (hx : x.ok) (pz : Addr) (w : World) (hz : Zs pz w) :
    Calls Tryd.prog 54 #[.agg (x.net pz).toArray] w fun e w' => e = .returned x.val ∧ Gr w w' := by
  obtain ⟨z0, z1⟩ := hz
  have hl := World.block_lt_of_cell? _ _ z0
  have hl1 := World.block_lt_of_cell? _ _ z1
  simp only at hl hl1
  have E1 := eqH_yes pz
  have C0 := fun W hb => bePut (w.heap.size + 1) x hx W hb
  have hlo : ((lo x : Nat) : Int) % 4294967296 = (x.num : Nat) := by
    have := Ad.num_lt hx
    unfold lo
    omega
  have hlo2 : ((lo x : Nat) : Int) < 18446744073709551616 := by
    have := Ad.num_lt hx
    unfold lo
    omega
  simp only [Ad.net, Ad.val]
  simp only [← hlo] at C0
  generalize lo x = p at *
  have C := hide C0
  clear C0 hlo
  go_enter Tryd.func54, Tryd.ntmps54
  go_wp2
  go_region_with (go_at_call 71; refine (C.out _ (show (((w.alloc _).alloc _).drew).heap[w.heap.size + 1]? = _ from new2 w _ _)).mono ?_; rintro e w1 ⟨rfl, hb, _, hG⟩; have G1 := hG w ((((Gr.refl w).alloc _).alloc _).drew) (Nat.le_succ _); obtain ⟨k1, k2⟩ := blkC hb; have d0 : w1.cell? ⟨w.heap.size + 1, 0, none⟩ = some (.int .u8 (x.a : Nat)) := k1 0; have d1 : w1.cell? ⟨w.heap.size + 1, 1, none⟩ = some (.int .u8 (x.b : Nat)) := k1 1; have d2 : w1.cell? ⟨w.heap.size + 1, 2, none⟩ = some (.int .u8 (x.c : Nat)) := k1 2; have d3 : w1.cell? ⟨w.heap.size + 1, 3, none⟩ = some (.int .u8 (x.d : Nat)) := k1 3; have f0 := k2 0; have f1 := k2 1; have f2 := k2 2; have f3 := k2 3; clear k1 k2)
  all_goals
    go_wp2
    exact bodyPost_ret (v := .agg #[.int .u8 (x.a : Nat), .int .u8 (x.b : Nat), .int .u8 (x.c : Nat), .int .u8 (x.d : Nat)]) (by simp [results, Tryd.results54, go_sem, d0, d1, d2, d3]) rfl ⟨rfl, (((G1.setCell (Nat.le_succ _) _).setCell (Nat.le_succ _) _).setCell (Nat.le_succ _) _).setCell (Nat.le_succ _) _⟩

theorem as4N (p : Nat) (x : Ad) (hp : p = lo x) (hx : x.ok) (pz : Addr) (w : World) (hz : Zs pz w) :
    Calls Tryd.prog 54 #[.agg #[.int .u64 0, .int .u64 p, .pointer (some pz)]] w fun e w' => e = .returned (.agg #[.int .u8 (x.a : Nat), .int .u8 (x.b : Nat), .int .u8 (x.c : Nat), .int .u8 (x.d : Nat)]) ∧ Gr w w' := by
  subst hp
  exact as4 x hx pz w hz

set_option maxHeartbeats 1000000 in
theorem first42 (x : Rg) (hx : x.ok) (pz : Addr) (w : World) (hz : Zs pz w) :
    Calls Tryd.prog 42 #[.agg (x.ent pz).toArray] w fun e w' => e = .returned x.f.val ∧ Gr w w' := by
  have C := hide (fun W p (hp : p = lo x.f) (hz : Zs pz W) => as4N p x.f hp hx.1 pz W hz)
  have HZ := hide hz
  simp only [Rg.ent, Ad.val]
  obtain ⟨p, hp⟩ : ∃ p, p = lo x.f := ⟨_, rfl⟩
  rw [← hp]
  generalize lo x.l = q
  have HP := hide hp
  clear hp hz
  go_enter Tryd.func42, Tryd.ntmps42
  go_wp2_with fail
  refine (C.out _ p HP.out (HZ.out.gr (((Gr.refl w).alloc _).alloc _))).mono ?_
  rintro e w1 ⟨rfl, G1⟩
  obtain ⟨k1, k2⟩ := blkC (G1.blk (new2 w _ _))
  have d0 : w1.cell? ⟨w.heap.size + 1, 0, none⟩ = some (.int .u8 0) := k1 0
  have d1 : w1.cell? ⟨w.heap.size + 1, 1, none⟩ = some (.int .u8 0) := k1 1
  have d2 : w1.cell? ⟨w.heap.size + 1, 2, none⟩ = some (.int .u8 0) := k1 2
  have d3 : w1.cell? ⟨w.heap.size + 1, 3, none⟩ = some (.int .u8 0) := k1 3
  have f0 := k2 0
  have f1 := k2 1
  have f2 := k2 2
  have f3 := k2 3
  clear k1 k2
  go_wp2
  have G := ((Gr.refl w).alloc _).alloc _ |>.trans G1
  exact bodyPost_ret (v := .agg #[.int .u8 (x.f.a : Nat), .int .u8 (x.f.b : Nat), .int .u8 (x.f.c : Nat), .int .u8 (x.f.d : Nat)]) (by simp [results, Tryd.results42, go_sem, d0, d1, d2, d3]) rfl ⟨rfl, (((G.setCell (Nat.le_succ _) _).setCell (Nat.le_succ _) _).setCell (Nat.le_succ _) _).setCell (Nat.le_succ _) _⟩
end Go.Proofs.Qxb6609544aDoor
