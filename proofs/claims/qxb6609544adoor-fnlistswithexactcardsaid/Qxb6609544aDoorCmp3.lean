import Derived.Test.Qxb6609544aDoorCmp2
namespace Go.Proofs.Qxb6609544aDoor
open Go.RowKit Go.Sort

/-- The first that is not 0. -/
def orI (a b : Int) : Int := if a = 0 then b else a

set_option maxHeartbeats 1000000 in
theorem cmpOr (g : Nat) (a b : Int) (w : World) (h0 : w.cell? ⟨g, 0, none⟩ = some (.int .i64 a)) (h1 : w.cell? ⟨g, 1, none⟩ = some (.int .i64 b)) :
    Calls Tryd.prog 49 #[.slice (some ⟨g, 0, none⟩) 2 2] w fun e w' => e = .returned (.int .i64 (orI a b)) ∧ w' = w := by
  obtain ⟨r, hr⟩ : ∃ r, orI a b = r := ⟨_, rfl⟩
  rw [hr]
  have HR := hide hr
  clear hr
  go_enter Tryd.func49, Tryd.ntmps49
  go_wp2
  go_loop [5, 8] (fun vv vi => ∃ k : Nat, k ≤ 2 ∧ vi = .int .i64 k ∧ Hid ((1 ≤ k → a = 0) ∧ (2 ≤ k → b = 0))) (fun _ vi => 2 - (intOf vi).toNat)
  case atStart => exact ⟨0, by omega, rfl, by omega, by omega⟩
  case round =>
    obtain ⟨k, hk, rfl, hq⟩ := hrel
    have hks : k = 0 ∨ k = 1 ∨ k = 2 := by omega
    rcases hks with rfl | rfl | rfl
    · by_cases h : a = 0
      · have hd : (a != 0) = false := by simp [h]
        have H := hide h
        clear h
        go_wp2
        go_round
        case rel => exact ⟨1, by omega, by go_num, by have := H.out; exact ⟨fun _ => this, by omega⟩⟩
        case measure => simp [intOf]
      · have hd : (a != 0) = true := by simpa using h
        have H := hide h
        clear h
        go_wp2
        go_ret
        exact ⟨ret_int (by rw [← HR.out]; unfold orI; rw [if_neg H.out]), rfl⟩
    · have ha := hq.out.1 (by omega)
      by_cases h : b = 0
      · have hd : (b != 0) = false := by simp [h]
        have H := hide h
        have HA := hide ha
        clear h ha
        go_wp2
        go_round
        case rel => exact ⟨2, by omega, by go_num, by have := H.out; have := HA.out; exact ⟨by omega, by omega⟩⟩
        case measure => simp [intOf]
      · have hd : (b != 0) = true := by simpa using h
        have H := hide h
        have HA := hide ha
        clear h ha
        go_wp2
        go_ret
        exact ⟨ret_int (by rw [← HR.out]; unfold orI; rw [if_pos HA.out]), rfl⟩
    · go_wp2
      go_ret
      exact ⟨ret_int (by rw [← HR.out]; unfold orI; have := hq.out; rw [if_pos (by omega)]; omega), rfl⟩

theorem entS0 (w : World) (pz : Addr) (rf rl sf sl : Nat) : (fun w' => w'.cell? ⟨w.heap.size, 0, none⟩ = some (.int .u64 0) ∧ w'.cell? ⟨w.heap.size, 1, none⟩ = some (.int .u64 rf) ∧ w'.cell? ⟨w.heap.size, 2, none⟩ = some (.pointer (some pz)) ∧ w'.cell? ⟨w.heap.size, 3, none⟩ = some (.int .u64 0) ∧ w'.cell? ⟨w.heap.size, 4, none⟩ = some (.int .u64 rl) ∧ w'.cell? ⟨w.heap.size, 5, none⟩ = some (.pointer (some pz)) ∧ w'.cell? ⟨w.heap.size + 1, 0, none⟩ = some (.int .u64 0) ∧ w'.cell? ⟨w.heap.size + 1, 1, none⟩ = some (.int .u64 sf) ∧ w'.cell? ⟨w.heap.size + 1, 2, none⟩ = some (.pointer (some pz)) ∧ w'.cell? ⟨w.heap.size + 1, 3, none⟩ = some (.int .u64 0) ∧ w'.cell? ⟨w.heap.size + 1, 4, none⟩ = some (.int .u64 sl) ∧ w'.cell? ⟨w.heap.size + 1, 5, none⟩ = some (.pointer (some pz))) ((w.alloc (.cells #[.int .u64 0, .int .u64 rf, .pointer (some pz), .int .u64 0, .int .u64 rl, .pointer (some pz)] 49)).alloc (.cells #[.int .u64 0, .int .u64 sf, .pointer (some pz), .int .u64 0, .int .u64 sl, .pointer (some pz)] 49)).drew := by
  go_keep

theorem keepA12 {W : World} {o : Obj} {p0 p1 p2 p3 p4 p5 p6 p7 p8 p9 p10 p11 : Addr} {v0 v1 v2 v3 v4 v5 v6 v7 v8 v9 v10 v11 : Value} (h : W.cell? p0 = some v0 ∧ W.cell? p1 = some v1 ∧ W.cell? p2 = some v2 ∧ W.cell? p3 = some v3 ∧ W.cell? p4 = some v4 ∧ W.cell? p5 = some v5 ∧ W.cell? p6 = some v6 ∧ W.cell? p7 = some v7 ∧ W.cell? p8 = some v8 ∧ W.cell? p9 = some v9 ∧ W.cell? p10 = some v10 ∧ W.cell? p11 = some v11) : (W.alloc o).cell? p0 = some v0 ∧ (W.alloc o).cell? p1 = some v1 ∧ (W.alloc o).cell? p2 = some v2 ∧ (W.alloc o).cell? p3 = some v3 ∧ (W.alloc o).cell? p4 = some v4 ∧ (W.alloc o).cell? p5 = some v5 ∧ (W.alloc o).cell? p6 = some v6 ∧ (W.alloc o).cell? p7 = some v7 ∧ (W.alloc o).cell? p8 = some v8 ∧ (W.alloc o).cell? p9 = some v9 ∧ (W.alloc o).cell? p10 = some v10 ∧ (W.alloc o).cell? p11 = some v11 := Gr.keep12 ((Gr.refl W).alloc o) h

set_option maxHeartbeats 8000000 in
theorem entCompare (r s : Rg) (pz : Addr) (w : World) (hz : Zs pz w) :
    Calls Tryd.prog 32 #[.agg (r.ent pz).toArray, .agg (s.ent pz).toArray] w fun e w' => e = .returned (.int .i64 (orI (cmpN (lo r.f) (lo s.f)) (cmpN (lo r.l) (lo s.l)))) ∧ Gr w w' := by
  have b1 := fun W hW => compare r.f s.f pz W hW
  have b2 := fun W hW => compare r.l s.l pz W hW
  simp only [Ad.net, Rg.ent] at *
  have HZ := hide hz
  clear hz
  generalize cmpN (lo r.f) (lo s.f) = c1 at *
  generalize cmpN (lo r.l) (lo s.l) = c2 at *
  generalize lo r.f = rf at *
  generalize lo s.f = sf at *
  generalize lo r.l = rl at *
  generalize lo s.l = sl at *
  have B1 := hide b1
  have B2 := hide b2
  clear b1 b2
  have K0 := hide (entS0 w pz rf rl sf sl)
  go_enter Tryd.func32, Tryd.ntmps32
  go_wp2
  go_region_held3 (fun w' => w'.cell? ⟨w.heap.size, 0, none⟩ = some (.int .u64 0) ∧ w'.cell? ⟨w.heap.size, 1, none⟩ = some (.int .u64 rf) ∧ w'.cell? ⟨w.heap.size, 2, none⟩ = some (.pointer (some pz)) ∧ w'.cell? ⟨w.heap.size, 3, none⟩ = some (.int .u64 0) ∧ w'.cell? ⟨w.heap.size, 4, none⟩ = some (.int .u64 rl) ∧ w'.cell? ⟨w.heap.size, 5, none⟩ = some (.pointer (some pz)) ∧ w'.cell? ⟨w.heap.size + 1, 0, none⟩ = some (.int .u64 0) ∧ w'.cell? ⟨w.heap.size + 1, 1, none⟩ = some (.int .u64 sf) ∧ w'.cell? ⟨w.heap.size + 1, 2, none⟩ = some (.pointer (some pz)) ∧ w'.cell? ⟨w.heap.size + 1, 3, none⟩ = some (.int .u64 0) ∧ w'.cell? ⟨w.heap.size + 1, 4, none⟩ = some (.int .u64 sl) ∧ w'.cell? ⟨w.heap.size + 1, 5, none⟩ = some (.pointer (some pz))) (first | exact K0.out | exact Gr.keep12 g2 (by assumption) | exact Gr.keep12 g1 (by assumption) | exact keepA12 (Gr.keep12 g2 (Gr.keep12 g1 K0.out)))
    (first
      | (go_at_call_of 50 rf; refine (B1.out _ ?_).mono ?_; exact HZ.out.gr (((Gr.refl w).alloc _).alloc _).drew; rintro e w1 ⟨rfl, g1⟩)
      | (go_at_call_of 50 rl; refine (B2.out _ ?_).mono ?_; exact HZ.out.gr ((((Gr.refl w).alloc _).alloc _).drew.trans g1); rintro e w2 ⟨rfl, g2⟩)
      | (go_at_call 49; refine (cmpOr _ c1 c2 _ ?_ ?_).mono ?_; (simp); (simp); rintro e w3 ⟨rfl, rfl⟩))
  go_wp2
  go_ret
  exact ⟨rfl, ((((Gr.refl w).alloc _).alloc _).drew.trans (g1.trans g2)).alloc _⟩
end Go.Proofs.Qxb6609544aDoor
