import Derived.Test.Qxb6609544aDoorEnt
import Derived.LaidEql
namespace Go.Proofs.Qxb6609544aDoor
open Go.RowKit

theorem eqH_no (pz : Addr) (w : World) : (binOp .eql 45 (.agg #[.pointer (some pz)]) (.agg #[.pointer none])).run Tryd.prog w = .ok (.bool false) w := by kernel_rfl
theorem neH_no (pz : Addr) (w : World) : (binOp .neq 45 (.agg #[.pointer (some pz)]) (.agg #[.pointer none])).run Tryd.prog w = .ok (.bool true) w := by kernel_rfl

theorem eqP_same_d (d : Nat) (t u : TypeId) (ht : Tryd.prog.underlying t = some (.pointer u)) (k : Nat) (hk : ∀ w, (Go.sizeOf u).run Tryd.prog w = .ok k w) (pz : Addr) (w : World) : (Op.equalIn (d + 1) t (.pointer (some pz)) (.pointer (some pz))).run Tryd.prog w = .ok true w := by
  simp [Op.equalIn, run_underlying ht, run_sameAddr_same, hk, Result.andThen]
theorem eqP_same (pz : Addr) (w : World) : (Op.equalIn 9999 43 (.pointer (some pz)) (.pointer (some pz))).run Tryd.prog w = .ok true w := eqP_same_d 9998 43 _ Tryd.underlying43 _ Tryd.sizeOf113 pz w

theorem eqH_yes (pz : Addr) (w : World) : (binOp .eql 45 (.agg #[.pointer (some pz)]) (.agg #[.pointer (some pz)])).run Tryd.prog w = .ok (.bool true) w := by
  have hS : Tryd.prog.underlying 45 = some (.struct (Tryd.prog.fieldsOf 45)) := by kernel_rfl
  have hp : Tryd.prog.stoodInHeld 45 = false := by kernel_rfl
  rw [run_eql_struct, show (10000 : Nat) = 9999 + 1 from rfl, run_equalIn_agg w 9999 45 _ _ hS hp]
  simp only [Program.fieldsOf, Tryd.underlying45]
  go_simp
  simp [eqP_same, Result.andThen]

theorem neH_yes (pz : Addr) (w : World) : (binOp .neq 45 (.agg #[.pointer (some pz)]) (.agg #[.pointer (some pz)])).run Tryd.prog w = .ok (.bool false) w := by
  have hS : Tryd.prog.underlying 45 = some (.struct (Tryd.prog.fieldsOf 45)) := by kernel_rfl
  have hp : Tryd.prog.stoodInHeld 45 = false := by kernel_rfl
  rw [run_neq_struct, show (10000 : Nat) = 9999 + 1 from rfl, run_equalIn_agg w 9999 45 _ _ hS hp]
  simp only [Program.fieldsOf, Tryd.underlying45]
  go_simp
  simp [eqP_same, Result.andThen]

set_option maxHeartbeats 1000000 in
theorem bitLen (x : Ad) (pz : Addr) (w : World) (hz : Zs pz w) :
    Calls Tryd.prog 57 #[.agg (x.net pz).toArray] w fun e w' => e = .returned (.int .i64 32) ∧ Gr w w' := by
  obtain ⟨z0, z1⟩ := hz
  have hl := World.block_lt_of_cell? _ _ z0
  have hl1 := World.block_lt_of_cell? _ _ z1
  simp only at hl hl1
  have e1 := eqH_no pz
  have e2 := eqH_yes pz
  simp only [Ad.net] at *
  go_enter Tryd.func57, Tryd.ntmps57
  go_wp2
  go_ret
  exact ⟨rfl, (Gr.refl w).alloc _⟩

set_option maxHeartbeats 1000000 in
theorem is6 (x : Ad) (pz : Addr) (w : World) (hz : Zs pz w) :
    Calls Tryd.prog 58 #[.agg (x.net pz).toArray] w fun e w' => e = .returned (.bool false) ∧ Gr w w' := by
  obtain ⟨z0, z1⟩ := hz
  have hl := World.block_lt_of_cell? _ _ z0
  have hl1 := World.block_lt_of_cell? _ _ z1
  simp only at hl hl1
  have e1 := neH_no pz
  have e2 := neH_yes pz
  simp only [Ad.net] at *
  go_enter Tryd.func58, Tryd.ntmps58
  go_wp2
  go_ret
  exact ⟨rfl, (Gr.refl w).alloc _⟩

end Go.Proofs.Qxb6609544aDoor
