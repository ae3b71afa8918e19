import Derived.Test.Qxb6609544aDoorBase
import Derived.Lib.EndianBits
namespace Go.Proofs.Qxb6609544aDoor
open Go.RowKit

set_option maxHeartbeats 1000000 in
theorem cmpRange (r s : Rg) (hr : r.ok) (hs : s.ok) (w : World) :
    Calls Tryd.prog 46 #[r.val, s.val] w fun e w' => e = .returned (.int .i64 (cmpR r s)) ∧ Gr w w' := by
  have c1 := fun W => cmp4 r.f s.f hr.1 hs.1 W
  have c2 := fun W => cmp4 r.l s.l hr.2 hs.2 W
  by_cases h : r.f.num = s.f.num
  · have e0 : cmpN r.f.num s.f.num = 0 := cmpN_eq h
    have e1 : cmpR r s = cmpN r.l.num s.l.num := by unfold cmpR; rw [if_pos h]
    rw [e0] at c1
    rw [e1]
    simp only [Rg.val, Rg.cells, Ad.val] at *
    generalize cmpN r.l.num s.l.num = x at *
    have C1 := hide c1
    have C2 := hide c2
    clear c1 c2 e0 e1 h
    go_enter Tryd.func46, Tryd.ntmps46
    go_wp2_with fail
    refine (C1.out _).mono ?_
    rintro e w1 ⟨rfl, g1⟩
    obtain ⟨hc, hf⟩ := g1.rules
    go_wp2_with fail
    refine (C2.out _).mono ?_
    rintro e w2 ⟨rfl, g2⟩
    clear hc hf
    go_wp2
    go_ret
    exact ⟨rfl, (((Gr.refl w).alloc _).alloc _).trans (g1.trans g2)⟩
  · have e0 : (cmpN r.f.num s.f.num != 0) = true := by unfold cmpN; split; rfl; split; rfl; omega
    have e1 : cmpR r s = cmpN r.f.num s.f.num := by unfold cmpR; rw [if_neg h]
    rw [e1]
    simp only [Rg.val, Rg.cells, Ad.val] at *
    generalize cmpN r.f.num s.f.num = x at *
    have C1 := hide c1
    clear c1 c2 e1 h
    go_enter Tryd.func46, Tryd.ntmps46
    go_wp2_with fail
    refine (C1.out _).mono ?_
    rintro e w1 ⟨rfl, g1⟩
    go_wp2
    go_ret
    exact ⟨rfl, (((Gr.refl w).alloc _).alloc _).trans g1⟩

/-- The two variables of net/netip: z4 leads to pz, z0 is nil. -/
def Zs (pz : Addr) (w : World) : Prop := w.cell? ⟨0, 0, none⟩ = some (.pointer (some pz)) ∧ w.cell? ⟨1, 0, none⟩ = some (.pointer none)

theorem Zs.gr {pz : Addr} {w w' : World} (h : Zs pz w) (g : Gr w w') : Zs pz w' := ⟨g.cell h.1, g.cell h.2⟩

/-- The cells of an address as net/netip holds it. -/
def Ad.net (x : Ad) (pz : Addr) : List Value := [.int .u64 0, .int .u64 (lo x : Nat), .pointer (some pz)]
/-- The cells of an entry. -/
def Rg.ent (r : Rg) (pz : Addr) : List Value := [.int .u64 0, .int .u64 (lo r.f : Nat), .pointer (some pz), .int .u64 0, .int .u64 (lo r.l : Nat), .pointer (some pz)]

theorem or_comm64 (a b : Int) (ha : 0 ≤ a) (ha1 : a < 18446744073709551616) (hb : 0 ≤ b) (hb1 : b < 18446744073709551616) : bits .or .u64 a b = bits .or .u64 b a := by
  obtain ⟨n, rfl⟩ := Int.eq_ofNat_of_zero_le ha
  obtain ⟨m, rfl⟩ := Int.eq_ofNat_of_zero_le hb
  rw [(bits_nat .u64 64 (by decide) wraps_u64 n m (by omega) (by omega)).2, (bits_nat .u64 64 (by decide) wraps_u64 m n (by omega) (by omega)).2, Nat.or_comm]

theorem loBits (x : Ad) (hx : x.ok) : bits .or .u64 (bits .or .u64 (bits .or .u64 (bits .or .u64 281470681743360 ((x.a : Int) * 16777216)) ((x.b : Int) * 65536)) ((x.c : Int) * 256)) (x.d : Int) = (lo x : Nat) := by
  obtain ⟨hx0, hx1, hx2, hx3⟩ := hx
  have h1 : bits .or .u64 281470681743360 ((x.a : Int) * 16777216) = 281470681743360 + (x.a : Int) * 16777216 := by
    rw [or_comm64 _ _ (by omega) (by omega) (by omega) (by omega), u64_or32 _ _ (by omega) (by omega) (by omega) (by omega) (by omega)]; omega
  have h2 : bits .or .u64 (281470681743360 + (x.a : Int) * 16777216) ((x.b : Int) * 65536) = 281470681743360 + (x.a : Int) * 16777216 + (x.b : Int) * 65536 := by
    rw [or_comm64 _ _ (by omega) (by omega) (by omega) (by omega), u64_or24 _ _ (by omega) (by omega) (by omega) (by omega) (by omega)]; omega
  have h3 : bits .or .u64 (281470681743360 + (x.a : Int) * 16777216 + (x.b : Int) * 65536) ((x.c : Int) * 256) = 281470681743360 + (x.a : Int) * 16777216 + (x.b : Int) * 65536 + (x.c : Int) * 256 := by
    rw [or_comm64 _ _ (by omega) (by omega) (by omega) (by omega), u64_or16 _ _ (by omega) (by omega) (by omega) (by omega) (by omega)]; omega
  have h4 : bits .or .u64 (281470681743360 + (x.a : Int) * 16777216 + (x.b : Int) * 65536 + (x.c : Int) * 256) (x.d : Int) = 281470681743360 + (x.a : Int) * 16777216 + (x.b : Int) * 65536 + (x.c : Int) * 256 + (x.d : Int) := by
    rw [or_comm64 _ _ (by omega) (by omega) (by omega) (by omega), u64_or8 _ _ (by omega) (by omega) (by omega) (by omega) (by omega)]; omega
  rw [h1, h2, h3, h4]
  unfold lo Ad.num
  omega

set_option maxHeartbeats 1000000 in
theorem addrFrom4 (x : Ad) (hx : x.ok) (pz : Addr) (w : World) (hz : Zs pz w) :
    Calls Tryd.prog 33 #[x.val] w fun e w' => e = .returned (.agg (x.net pz).toArray) ∧ Gr w w' := by
  obtain ⟨z0, z1⟩ := hz
  have hl := World.block_lt_of_cell? _ _ z0
  have hl1 := World.block_lt_of_cell? _ _ z1
  simp only at hl hl1
  have HL := loBits x hx
  obtain ⟨hx0, hx1, hx2, hx3⟩ := hx
  simp only [Ad.val, Ad.net] at *
  go_enter Tryd.func33, Tryd.ntmps33
  go_wp2
  exact bodyPost_ret (v := .agg #[.int .u64 0, .int .u64 (lo x : Nat), .pointer (some pz)]) (by simp [results, Tryd.results33, go_sem]) rfl ⟨rfl, ((Gr.refl w).alloc _).alloc _⟩

set_option maxHeartbeats 1000000 in
theorem entry4 (r : Rg) (hr : r.ok) (pz : Addr) (w : World) (hz : Zs pz w) :
    Calls Tryd.prog 21 #[r.f.val, r.l.val] w fun e w' => e = .returned (.agg (r.ent pz).toArray) ∧ Gr w w' := by
  have c1 := fun W hW => addrFrom4 r.f hr.1 pz W hW
  have c2 := fun W hW => addrFrom4 r.l hr.2 pz W hW
  have C1 := hide c1
  have C2 := hide c2
  have HZ := hide hz
  clear c1 c2 hz
  simp only [Ad.val, Rg.ent, Ad.net] at *
  go_enter Tryd.func21, Tryd.ntmps21
  go_wp2
  go_region_with (first
      | (go_at_call_of 33 r.f; refine (C1.out _ ?_).mono ?_; exact HZ.out.gr ((((Gr.refl w).alloc _).alloc _).alloc _).drew; rintro e w1 ⟨rfl, g1⟩; have hbk1 := g1.blk (new3b w _ _ _); obtain ⟨hc1, hf1⟩ := blkC hbk1)
      | (go_at_call_of 33 r.l; refine (C2.out _ ?_).mono ?_; exact HZ.out.gr (((((Gr.refl w).alloc _).alloc _).alloc _).drew.trans g1); rintro e w2 ⟨rfl, g2⟩; have hbk := g2.blk (g1.blk (new3 w _ _ _)); obtain ⟨hc3, hf3⟩ := blkC hbk))
  all_goals
    go_wp2
    refine bodyPost_ret (v := .agg #[.int .u64 0, .int .u64 (lo r.f : Nat), .pointer (some pz), .int .u64 0, .int .u64 (lo r.l : Nat), .pointer (some pz)]) (by simp [results, Tryd.results21, go_sem, hc3]) rfl ⟨rfl, ?_⟩
    have g0 := (((((Gr.refl w).alloc _).alloc _).alloc _).drew.trans g1).trans g2
    exact (((((g0.setCell (by simp; omega) _).setCell (by simp; omega) _).setCell (by simp; omega) _).setCell (by simp; omega) _).setCell (by simp; omega) _).setCell (by simp; omega) _

end Go.Proofs.Qxb6609544aDoor
