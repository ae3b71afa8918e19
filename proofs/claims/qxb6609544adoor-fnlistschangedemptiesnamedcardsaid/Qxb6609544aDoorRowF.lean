/- The listed variables; the start that the program's own initialisers leave; the row over a law's contract. -/
import Derived.Test.Qxb6609544aDoorRowD
namespace Go.Proofs.Qxb6609544aDoor
open Go.ChangeShapes Go.WideShapes Go.ChangeAt Go.RowKit Go.Deep
set_option maxRecDepth 100000

/-- The listed variables. -/
abbrev laidL : List (String × DataW Unit) := [(nz4, Rows.laid_net_netip_z4), (nz0, Rows.laid_net_netip_z0)]
theorem t0 : (Tryd.prog.globals[0]?).map (·.type) = some 45 := by kernel_rfl
theorem t1 : (Tryd.prog.globals[1]?).map (·.type) = some 45 := by kernel_rfl
theorem cells43 : Tryd.prog.cellsOf 43 = 1 := by kernel_rfl
theorem cells45 : Tryd.prog.cellsOf 45 = 1 := by kernel_rfl

theorem reads_of {W : World} : ∀ {l : List (String × DataW Unit)} {ps : List MemPlace}, DataW.LaidVars Tryd.prog W l ps → ∀ n d, (n, d) ∈ l → ∃ g t cs fuel p, Tryd.prog.globalNamed n = some g ∧ (Tryd.prog.globals[g]?).map (·.type) = some t ∧ W.var? Tryd.prog n = some cs ∧ DataW.trod (fun _ => ()) Tryd.prog W 0 (fun _ => true) false fuel t cs.toList = some (d, p)
  | [], _, _, _, _, hm => by cases hm
  | (n', d') :: r, ps, h, n, d, hm => by
    obtain ⟨g, t, cs, fuel, p, q, h1, h2, h3, h4, h5, _⟩ := h
    rcases List.mem_cons.1 hm with e | e
    · cases e
      exact ⟨g, t, cs, fuel, p, h1, h2, h3, h4⟩
    · exact reads_of h5 n d e

/-- What the condition gives the walks. -/
theorem zs_of_laid {W : World} (h : laidMetH Tryd.prog laidL W) : ∃ pz, Zs pz W := by
  have h' : laidMet Tryd.prog laidL W := h
  obtain ⟨ps, hv, _⟩ := h'
  obtain ⟨g, t, cs, fuel, p, hg, ht, hv0, hd⟩ := reads_of hv nz4 Rows.laid_net_netip_z4 (by simp)
  obtain ⟨g', t', cs', fuel', p', hg', ht', hv1, hd'⟩ := reads_of hv nz0 Rows.laid_net_netip_z0 (by simp)
  obtain rfl := Option.some.inj (g0.symm.trans hg)
  obtain rfl := Option.some.inj (g1.symm.trans hg')
  obtain rfl := Option.some.inj (t0.symm.trans ht)
  obtain rfl := Option.some.inj (t1.symm.trans ht')
  have c0 := World.var?_cell hg hv0 0
  have c1 := World.var?_cell hg' hv1 0
  obtain ⟨y, n, hy, hl, hf⟩ := trod_struct1 Tryd.underlying45 hd
  obtain ⟨y', n', hy', hl', hf'⟩ := trod_struct1 Tryd.underlying45 hd'
  simp only [cells43, cells45] at hf hl hf' hl'
  simp only [Prod.mk.injEq] at hy hy'
  have e0 : List.take 1 (List.drop 0 cs.toList) = cs.toList := by rw [List.drop_zero, List.take_of_length_le (by omega)]
  have e1 : List.take 1 (List.drop 0 cs'.toList) = cs'.toList := by rw [List.drop_zero, List.take_of_length_le (by omega)]
  rw [e0] at hf
  rw [e1] at hf'
  rcases DataW.trod_pointer Tryd.underlying43 hf with ⟨_, hx⟩ | ⟨a, _, _, _, _, hc, _, _, _⟩
  · rw [hx] at hy
    exact absurd hy.1 (by intro h; cases h)
  rcases DataW.trod_pointer Tryd.underlying43 hf' with ⟨hc', _⟩ | ⟨_, _, _, _, _, _, hx, _, _⟩
  · refine ⟨a, ?_, ?_⟩
    · rw [c0]
      have := congrArg (·[0]?) hc
      simpa using this
    · rw [c1]
      have := congrArg (·[0]?) hc'
      simpa using this
  · rw [hx] at hy'
    exact absurd hy'.1 (by intro h; cases h)

/-- A start at which the listed variables read as listed: z4's pointer leads to a new block. -/
def lay0 (w0 : World) : World :=
  { w0 with heap := (w0.heap.modify 0 fun
      | .cells _ t frozen => .cells #[.pointer (some ⟨7, 0, none⟩)] t frozen
      | o => o).push (.cells #[.bool false, .string ⟨#[]⟩] 113) }
theorem lay0_met (os : Os) (args : Array Value) : laidMetH Tryd.prog laidL ((lay0 (World.holding Tryd.prog os ⟨#[], #[], []⟩)).forCall (fun _ _ => 0) ⟨#[], args, []⟩).memory :=
  laidMetH_of_parts3 (fuel := 8) (laidMet_of_run' 8 (by kernel_rfl) (by kernel_rfl)) (by kernel_rfl) (by kernel_rfl)

/-- A law's contract: true, and nothing old turned. -/
def LawC (F : FuncId) : Prop := ∀ (pz : Addr) (sv tv : Value) (l m : List Rg) (st : ByteArray) (r : Rg) (W : World), Zs pz W → IsSl W sv l → IsSl W tv m → l.length ≤ maxLen → m.length ≤ maxLen → st.size ≤ maxLen → r.ok →
  Calls Tryd.prog F #[sv, tv, .string st, r.val] W fun e W' => e = .returned (.bool true) ∧ Below W.heap.size W W'

theorem lifted6 (C : LawC 6) (os : Os) (started : os.Started) (H : Type) (enc : TypeId × Value → H) :
    ReturnsInHanded {} Tryd.checked os 6 .any (fun w args => (Rows.fnListsChangedEmptiesNamedSpec.pre enc Tryd.prog Tryd.f6 [] false w args ∧ laidMetH Tryd.prog laidL w) ∧ sizedMet enc Tryd.prog Tryd.f6 (OpenSpec.ofChange Rows.fnListsChangedEmptiesNamedSpec) false w args)
      (Rows.fnListsChangedEmptiesNamedSpec.post enc Tryd.prog Tryd.f6 false true false false) := by
  refine returnsInHanded_of_change_and (C := Tryd.checked) (X := fun w _ => laidMetH Tryd.prog laidL w) (fun _ _ _ hh h => h.of_heap hh) own started (by kernel_rfl) Tryd.func6
    (ChangeSpec.witness_shaped (enc := enc) (C := Tryd.checked) (os := os) (X := fun w _ => laidMetH Tryd.prog laidL w) false (lay0 (World.holding Tryd.prog os ⟨#[], #[], []⟩)) #[.slice none 0 0, .slice none 0 0, .string ⟨#[]⟩, .agg #[.int .u8 0, .int .u8 0, .int .u8 0, .int .u8 0, .int .u8 0, .int .u8 0, .int .u8 0, .int .u8 0]] 8 rfl (World.shaped_of_RefB (by kernel_rfl) (by kernel_rfl)) (by kernel_rfl) (by kernel_rfl) (by kernel_rfl) (lay0_met os _)) ?_
  intro W base args ds gs before hval0 hW _ _ hL _
  have hval : ∀ (j : Nat) t v, Tryd.f6.params[j]? = some t → args[j]? = some v → Value.okWide Tryd.prog W .any base t v := hval0
  have hW' := hW
  obtain ⟨p, q, hA0, hV, rfl, hfz, hnd⟩ := hW
  have hA : DataW.TrodAll enc Tryd.prog W 0 (fun _ => true) true Tryd.f6.params.toList args.toList ds p := hA0
  rw [Tryd.params6] at hA hval
  obtain ⟨v0, vs0, d0, ds0, p0, q0, hargs, rfl, rfl, h0, r0⟩ := trodAll_cons hA
  obtain ⟨v1, vs1, d1, ds1, p1, q1, rfl, rfl, rfl, h1, r1⟩ := trodAll_cons r0
  obtain ⟨v2, vs2, d2, ds2, p2, q2, rfl, rfl, rfl, h2, r2⟩ := trodAll_cons r1
  obtain ⟨v3, vs3, d3, ds3, p3, q3, rfl, rfl, rfl, h3, r3⟩ := trodAll_cons r2
  obtain ⟨rfl, rfl, rfl⟩ := trodAll_nil r3
  obtain rfl : args = #[v0, v1, v2, v3] := by cases args; simp_all
  obtain ⟨rfl, rfl⟩ := trodVars_none hV
  have lt0 : ∀ x ∈ p0, x.block < W.heap.size := by obtain ⟨m, hm⟩ := h0; exact DataW.trod_lt m _ _ _ hm
  have lt1 : ∀ x ∈ p1, x.block < W.heap.size := by obtain ⟨m, hm⟩ := h1; exact DataW.trod_lt m _ _ _ hm
  have lt2 : ∀ x ∈ p2, x.block < W.heap.size := by obtain ⟨m, hm⟩ := h2; exact DataW.trod_lt m _ _ _ hm
  have lt3 : ∀ x ∈ p3, x.block < W.heap.size := by obtain ⟨m, hm⟩ := h3; exact DataW.trod_lt m _ _ _ hm
  have k0 := h0
  have k1 := h1
  have k2 := h2
  have k3 := h3
  obtain ⟨l, sl, ll⟩ := open_sl (hval 0 22 v0 rfl rfl) h0
  obtain ⟨m, sm, lm⟩ := open_sl (hval 1 22 v1 rfl rfl) h1
  obtain ⟨st, rfl, _, _, hst⟩ := Go.ChangeMaps.open_string Tryd.underlying9 (hval 2 9 v2 rfl rfl) h2
  obtain ⟨x, hx, rfl⟩ := open_rg (hval 3 37 v3 rfl rfl) h3
  obtain ⟨pz, hz⟩ := zs_of_laid hL
  clear hA0 hval0
  refine (C pz v0 v1 l m st x W hz sl sm ll lm hst hx).mono fun e W' ⟨he, bel⟩ => ?_
  subst he
  exact ⟨_, rfl, _, _, _, [], _, [], hW', trodAll_mk1 (shut_bool Tryd.underlying4 _), (trodAll_cons_mk (Below.trod laidOut (by kernel_rfl) (of_decide_eq_true (by kernel_rfl)) k0 bel lt0) (trodAll_cons_mk (Below.trod laidOut (by kernel_rfl) (of_decide_eq_true (by kernel_rfl)) k1 bel lt1) (trodAll_cons_mk (Below.trod laidOut (by kernel_rfl) (of_decide_eq_true (by kernel_rfl)) k2 bel lt2) (trodAll_cons_mk (Below.trod laidOut (by kernel_rfl) (of_decide_eq_true (by kernel_rfl)) k3 bel lt3) trodAll_mk0)))), rfl, bel.frame _, fun h => by cases h⟩

theorem over6 (C : LawC 6) : Rows.FnListsChangedEmptiesNamedSaid :=
  OpenClaim.holds_of_wide 6 Tryd.f6 rfl rfl rfl rfl rfl rfl rfl ⟨rfl, rfl, rfl, rfl, rfl⟩ rfl rfl rfl rfl rfl (by kernel_rfl) Tryd.func6 (by kernel_rfl)
    (of_decide_eq_true (by kernel_rfl)) (by unfold Func.isWrapper; first | (rw [if_pos (by decide +kernel)]; kernel_rfl) | (rw [if_neg (by decide +kernel)]; exact ⟨rfl, rfl⟩))
    (fun os started H enc _ => lifted6 C os started H enc)
end Go.Proofs.Qxb6609544aDoor
