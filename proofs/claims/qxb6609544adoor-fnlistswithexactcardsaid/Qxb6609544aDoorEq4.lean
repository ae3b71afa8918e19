import Derived.Test.Qxb6609544aDoorAppR
import Derived.ChangeKeysEq
namespace Go.Proofs.Qxb6609544aDoor
open Go.RowKit Go.Sort Go.Deep

theorem size44g (pz : Addr) (b xf xl s r : Nat) (p q : Option Addr) (w : World) (h : w.heap[b]? = some (.cells (ndC pz xf xl (.pointer p) (.pointer q) s r) 70 (0, 0))) : Calls Tryd.prog 44 #[.pointer (some ⟨b, 0, none⟩)] w fun e w' => e = .returned (.int .i64 s) ∧ Gr w w' :=
  (size44 pz b xf xl s r p q w h).mono (by rintro e w' ⟨h1, rfl⟩; exact ⟨h1, Gr.refl _⟩)

theorem info5 : ∃ i, Tryd.prog.info? 5 = some i ∧ i.zero = some (.int .u8 0) ∧ i.size = 1 ∧ i.bytes = 1 := info_parts (by kernel_rfl)

theorem ne35 (a b c d : Nat) (w : World) : (binOp .neq 35 (.agg #[.int .u8 a, .int .u8 b, .int .u8 c, .int .u8 d]) (.agg #[.int .u8 a, .int .u8 b, .int .u8 c, .int .u8 d])).run Tryd.prog w = .ok (.bool false) w := by
  obtain ⟨i, hi, _⟩ := info5
  have hc : Tryd.prog.cellsOf 5 = 1 := by kernel_rfl
  rw [run_neq_struct, show (10000 : Nat) = 9998 + 1 + 1 from rfl, run_equalIn_array _ _ _ _ Tryd.underlying35 hi, hc]
  have e : List.range 4 = [0, 1, 2, 3] := by decide
  rw [e]
  simp only [Op.eqItems]
  go_simp
end Go.Proofs.Qxb6609544aDoor
