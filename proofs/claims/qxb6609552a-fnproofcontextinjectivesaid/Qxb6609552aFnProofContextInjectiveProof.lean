/-
  THE PROOF OF 'Rows.FnProofContextInjectiveSaid'. The frame is the guide's template at this function's number and types; the walk is lawWalk (Qxb6609552aLaw.lean).
-/
import Derived.Test.Qxb6609552aRows
import Derived.WalkKit
import Derived.ProofKit
import Derived.OpenShut
import Derived.ShutString
import Derived.ChangeOld
import Derived.Below
import Derived.Test.Qxb6609552aLaw
namespace Go.Proofs.Qxb6609552a.fnProofContextInjective
open Go.ChangeShapes Go.WideShapes Go.ChangeAt Go.RowKit
set_option linter.unusedVariables false

theorem own : ownKnob Try.prog.godebug = none := by kernel_rfl
theorem laidOut : laidOutB Try.prog = true := by kernel_rfl
theorem cells22 : Try.prog.cellsOf 22 = 32 := by kernel_rfl
theorem cells5 : Try.prog.cellsOf 5 = 1 := by kernel_rfl

/-- The byte that a cell holds. -/
def byteOf : Value → UInt8
  | .int _ z => z.toNat.toUInt8
  | _ => 0

theorem open_bytes32 {H : Type} {enc : TypeId × Value → H} {W : World} {base b0 : Nat} {sp : Nat → Bool} {hd : Bool} {r : Reach} {v : Value} {d : DataW H} {p : List MemPlace}
    (hv : Value.okWide Try.prog W r b0 22 v) (h : DataW.Trod enc Try.prog W base sp hd 22 v d p) : ∃ s : List UInt8, s.length = 32 ∧ v = .agg (Lib.byteCells s).toArray := by
  obtain ⟨cs, rfl, hsz, _⟩ : ∃ cs, v = .agg cs ∧ cs.size = Try.prog.cellsOf 22 ∧ Row.okWide Try.prog W r b0 22 cs := by
    simpa [Value.okWide, Try.underlying22] using hv
  rw [cells22] at hsz
  obtain ⟨fuel, hf⟩ := h
  obtain ⟨xs, m, _, _, _, hn, hel⟩ := DataW.trod_array Try.underlying22 hf
  have hl : cs.toList.length = 32 := by simpa using hsz
  have hc : ∀ i (hi : i < cs.toList.length), cs.toList[i] = Value.int .u8 ((byteOf cs.toList[i]).toNat : Int) := fun i hi => by
    have h1 := hel i (by omega)
    rw [cells5, Nat.mul_one, List.getElem?_eq_getElem (by omega)] at h1
    have e : (Value.cells (.agg cs)).toList = cs.toList := rfl
    rw [e, List.drop_eq_getElem_cons hi] at h1
    simp only [List.take_succ_cons, List.take_zero] at h1
    obtain ⟨z, hz, _, wz⟩ := DataW.trod_int Try.underlying5 h1
    have hz' : cs.toList[i] = Value.int .u8 z := by simpa using hz
    have hb := bounds_u8 wz
    rw [hz']
    simp only [byteOf]
    rw [Lib.toUInt8_toNat (by omega)]
    congr 1
    omega
  refine ⟨cs.toList.map byteOf, by simpa using hl, ?_⟩
  have e2 : Lib.byteCells (cs.toList.map byteOf) = cs.toList := by
    apply List.ext_getElem (by simp [Lib.byteCells])
    intro i h1 h2
    rw [hc i h2]
    simp [Lib.byteCells, byteOf]
  rw [e2]

/-! ### THE ROW's STEP: WRITTEN OUT: LEAVE IT -/
set_option maxRecDepth 100000 in
theorem lifted (os : Os) (started : os.Started) (H : Type) (enc : TypeId × Value → H) :
    ReturnsInHanded {} Try.checked os 3 .any (Rows.fnProofContextInjectiveSpec.pre6 enc Try.prog Try.f3 Rows.fnProofContextInjectiveRow.domain false) (Rows.fnProofContextInjectiveSpec.post enc Try.prog Try.f3 false true false false) := by
  refine returnsInHanded_of_change (C := Try.checked) own started (by kernel_rfl) Try.func3
    (ChangeSpec.witness6 (enc := enc) (C := Try.checked) false ⟨#[], #[.agg (Array.replicate 32 (.int .u8 0)), .int .i64 0, .agg (Array.replicate 32 (.int .u8 0)), .int .i64 0], []⟩ 8 (by kernel_rfl) (by kernel_rfl) (by kernel_rfl) (by kernel_rfl)) ?_
  intro W base args ds gs before hval0 hW hcnd _
  have hval : ∀ (j : Nat) t v, Try.f3.params[j]? = some t → args[j]? = some v → Value.okWide Try.prog W .any base t v := hval0
  have hW' := hW
  obtain ⟨p, q, hA0, hV, rfl, hfz, hnd⟩ := hW
  have hA : DataW.TrodAll enc Try.prog W 0 (fun _ => true) true Try.f3.params.toList args.toList ds p := hA0
  rw [Try.params3] at hA hval
  obtain ⟨v0, vs0, d0, ds0, p0, q0, hargs, rfl, rfl, h0, r0⟩ := trodAll_cons hA
  obtain ⟨v1, vs1, d1, ds1, p1, q1, rfl, rfl, rfl, h1, r1⟩ := trodAll_cons r0
  obtain ⟨v2, vs2, d2, ds2, p2, q2, rfl, rfl, rfl, h2, r2⟩ := trodAll_cons r1
  obtain ⟨v3, vs3, d3, ds3, p3, q3, rfl, rfl, rfl, h3, r3⟩ := trodAll_cons r2
  obtain ⟨rfl, rfl, rfl⟩ := trodAll_nil r3
  obtain rfl : args = #[v0, v1, v2, v3] := by cases args; simp_all
  obtain ⟨rfl, rfl⟩ := trodVars_none hV
  have k0 := h0
  have lt0 : ∀ x ∈ p0, x.block < W.heap.size := by obtain ⟨m, hm⟩ := k0; exact DataW.trod_lt m _ _ _ hm
  have k2 := h2
  have lt2 : ∀ x ∈ p2, x.block < W.heap.size := by obtain ⟨m, hm⟩ := k2; exact DataW.trod_lt m _ _ _ hm
  obtain ⟨s, ls, rfl⟩ := open_bytes32 (hval 0 22 v0 rfl rfl) h0
  obtain ⟨a1, rfl, rfl, rfl, w1⟩ := open_int Try.underlying3 (hval 1 3 v1 rfl rfl) h1
  obtain ⟨t, lt, rfl⟩ := open_bytes32 (hval 2 22 v2 rfl rfl) h2
  obtain ⟨a3, rfl, rfl, rfl, w3⟩ := open_int Try.underlying3 (hval 3 3 v3 rfl rfl) h3
  clear hA0 hval0
  refine (lawWalk s t ls lt a1 a3 W).mono fun e W' ⟨he, bel⟩ => ?_
  subst he
  exact ⟨_, rfl, _, _, _, [], _, [], hW', trodAll_mk1 (shut_bool Try.underlying4 _), (trodAll_cons_mk (Below.trod laidOut (by kernel_rfl) (of_decide_eq_true (by kernel_rfl)) k0 bel lt0) (trodAll_cons_mk (shut_int Try.underlying3 w1) (trodAll_cons_mk (Below.trod laidOut (by kernel_rfl) (of_decide_eq_true (by kernel_rfl)) k2 bel lt2) (trodAll_cons_mk (shut_int Try.underlying3 w3) trodAll_mk0)))), rfl, bel.frame _, fun h => by cases h⟩

theorem over : Rows.fnProofContextInjectiveRow.holds Try.pinned (OpenSpec.ofChange Rows.fnProofContextInjectiveSpec) :=
  OpenClaim.holds_of_wide 3 Try.f3 rfl rfl rfl rfl rfl rfl rfl ⟨rfl, rfl, rfl, rfl, rfl⟩ rfl rfl rfl rfl rfl (by kernel_rfl) Try.func3 (by kernel_rfl)
    (of_decide_eq_true (by kernel_rfl)) (by unfold Func.isWrapper; first | (rw [if_pos (by decide +kernel)]; kernel_rfl) | (rw [if_neg (by decide +kernel)]; exact ⟨rfl, rfl⟩))
    (fun os started H enc _ => lifted os started H enc)

/-- ████ THE STATEMENT ████ -/
theorem proved : Rows.FnProofContextInjectiveSaid :=
  over
#print axioms proved
end Go.Proofs.Qxb6609552a.fnProofContextInjective
