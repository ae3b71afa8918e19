/- From the row's data to this seat's words. -/
import Derived.Test.Qxb6609544aDoorRows
import Derived.Test.Qxb6609544aDoorIn2
import Derived.Test.Qxb6609544aDoorEnt
import Derived.ProofKit
import Derived.OpenShut
import Derived.ChangeOld
import Derived.Below
import Derived.LaidMore
import Derived.Deep.Slices
import Derived.Stop.Joined
namespace Go.Proofs.Qxb6609544aDoor
open Go.ChangeShapes Go.WideShapes Go.ChangeAt Go.RowKit Go.Deep

theorem own : ownKnob Tryd.prog.godebug = none := by kernel_rfl
theorem laidOut : laidOutB Tryd.prog = true := by kernel_rfl
theorem cells37 : Tryd.prog.cellsOf 37 = 8 := by kernel_rfl
theorem cells35 : Tryd.prog.cellsOf 35 = 4 := by kernel_rfl
theorem cells5 : Tryd.prog.cellsOf 5 = 1 := by kernel_rfl

theorem list4 {cs : List Value} (h : cs.length = 4) : ∃ v0 v1 v2 v3, cs = [v0, v1, v2, v3] := by
  match cs, h with
  | [v0, v1, v2, v3], _ => exact ⟨v0, v1, v2, v3, rfl⟩
theorem list8 {cs : List Value} (h : cs.length = 8) : ∃ v0 v1 v2 v3 v4 v5 v6 v7, cs = [v0, v1, v2, v3, v4, v5, v6, v7] := by
  match cs, h with
  | [v0, v1, v2, v3, v4, v5, v6, v7], _ => exact ⟨v0, v1, v2, v3, v4, v5, v6, v7, rfl⟩

set_option maxRecDepth 100000
section
variable {H : Type} {enc : TypeId × Value → H} {W : World} {base : Nat} {sp : Nat → Bool} {hd : Bool}

theorem u8_of {n : Nat} {v : Value} {y : DataW H × List MemPlace} (h : DataW.trod enc Tryd.prog W base sp hd n 5 [v] = some y) : ∃ a : Nat, a < 256 ∧ v = .int .u8 (a : Nat) := by
  obtain ⟨z, hz, _, wz⟩ := DataW.trod_int Tryd.underlying5 h
  have hz' : v = Value.int .u8 z := by simpa using hz
  have hb := bounds_u8 wz
  exact ⟨z.toNat, by omega, by rw [hz']; congr 1; omega⟩

theorem ad_of {n : Nat} {cs : List Value} {y : DataW H × List MemPlace} (h : DataW.trod enc Tryd.prog W base sp hd n 35 cs = some y) : ∃ x : Ad, x.ok ∧ cs = [.int .u8 (x.a : Nat), .int .u8 (x.b : Nat), .int .u8 (x.c : Nat), .int .u8 (x.d : Nat)] := by
  obtain ⟨xs, m, _, _, hl, hn, hel⟩ := DataW.trod_array Tryd.underlying35 h
  rw [cells35] at hl
  obtain ⟨v0, v1, v2, v3, rfl⟩ := list4 hl
  have e0 := hel 0 (by omega)
  have e1 := hel 1 (by omega)
  have e2 := hel 2 (by omega)
  have e3 := hel 3 (by omega)
  simp only [cells5] at e0 e1 e2 e3
  rw [List.getElem?_eq_getElem (by omega)] at e0 e1 e2 e3
  obtain ⟨a, ha, rfl⟩ := u8_of e0
  obtain ⟨b, hb, rfl⟩ := u8_of e1
  obtain ⟨c, hc, rfl⟩ := u8_of e2
  obtain ⟨d, hd, rfl⟩ := u8_of e3
  exact ⟨⟨a, b, c, d⟩, ⟨ha, hb, hc, hd⟩, rfl⟩

theorem rg_of {n : Nat} {cs : List Value} {y : DataW H × List MemPlace} (h : DataW.trod enc Tryd.prog W base sp hd n 37 cs = some y) : ∃ r : Rg, r.ok ∧ cs = r.cells := by
  obtain ⟨y0, y1, m, _, hl, h0, h1⟩ := trod_struct2 Tryd.underlying37 h
  rw [cells37] at hl
  obtain ⟨v0, v1, v2, v3, v4, v5, v6, v7, rfl⟩ := list8 hl
  simp only [cells35] at h0 h1
  obtain ⟨x, hx, ex⟩ := ad_of h0
  obtain ⟨y, hy, ey⟩ := ad_of h1
  simp at ex ey
  obtain ⟨rfl, rfl, rfl, rfl⟩ := ex
  obtain ⟨rfl, rfl, rfl, rfl⟩ := ey
  exact ⟨⟨x, y⟩, ⟨hx, hy⟩, rfl⟩

/-- A range that came in. -/
theorem open_rg {r : Reach} {b0 : Nat} {v : Value} {d : DataW H} {p : List MemPlace} (hv : Value.okWide Tryd.prog W r b0 37 v) (h : DataW.Trod enc Tryd.prog W base sp hd 37 v d p) : ∃ x : Rg, x.ok ∧ v = x.val := by
  obtain ⟨cs, rfl, hsz, _⟩ : ∃ cs, v = .agg cs ∧ cs.size = Tryd.prog.cellsOf 37 ∧ Row.okWide Tryd.prog W r b0 37 cs := by
    simpa [Value.okWide, Tryd.underlying37] using hv
  obtain ⟨fuel, hf⟩ := h
  obtain ⟨x, hx, e⟩ := rg_of hf
  refine ⟨x, hx, ?_⟩
  have e2 : (Value.cells (.agg cs)).toList = cs.toList := rfl
  rw [e2] at e
  unfold Rg.val
  rw [← e]

/-- A slice of ranges that came in. -/
theorem open_sl {b0 : Nat} {v : Value} {d : DataW H} {p : List MemPlace} (hv : Value.okWide Tryd.prog W .any b0 22 v) (h : DataW.Trod enc Tryd.prog W 0 (fun _ => true) true 22 v d p) : ∃ l : List Rg, IsSl W v l ∧ l.length ≤ maxLen := by
  obtain ⟨a1, len, cap, rfl⟩ := okWide_slice Tryd.underlying22 hv
  obtain ⟨fuel, hf⟩ := h
  rcases open_slice Tryd.underlying22 hf with ⟨hcs, _⟩ | ⟨a, len', cap', m, n, D, Pl, hcs, _, hl, hm, hmm, _, hx⟩
  · simp [Value.cells] at hcs
    obtain ⟨rfl, rfl, rfl⟩ := hcs
    exact ⟨[], ⟨by simp, .inl ⟨rfl, rfl⟩⟩, by simp⟩
  · simp [Value.cells] at hcs
    obtain ⟨rfl, rfl, rfl⟩ := hcs
    have hspot : a.spot = none := by
      simp only [Value.okWide, Cell.okWide, Cell.ok, Tryd.underlying22] at hv
      exact hv.2.2.2.1
    obtain ⟨ab, ao, spot⟩ := a
    simp only at hspot
    subst hspot
    rw [if_pos rfl] at hmm
    have each : ∀ i, i < len → ∃ r : Rg, r.ok ∧ ∀ j, j < 8 → W.cell? ⟨ab, ao + i * 8 + j, none⟩ = r.cells[j]? := by
      intro i hi
      obtain ⟨cs', h1, h2⟩ := hx i (by omega)
      rw [cells37] at h1
      obtain ⟨_, hlen, hcell⟩ := World.cells?_some h1
      obtain ⟨r, hr, e⟩ := rg_of h2
      refine ⟨r, hr, fun j hj => ?_⟩
      have h3 := hcell j hj
      rw [add_add] at h3
      have ha : (⟨ab, ao, none⟩ : Addr).add (i * 8 + j) = ⟨ab, ao + i * 8 + j, none⟩ := by
        unfold Addr.add
        split
        · rename_i h0
          simp
        · simp
          omega
      rw [← ha, h3, e]
    let inh : Inhabited Rg := ⟨⟨⟨0, 0, 0, 0⟩, ⟨0, 0, 0, 0⟩⟩⟩
    obtain ⟨f, hf2⟩ := choose_lt each
    refine ⟨(List.range len).map f, ⟨fun r hr => ?_, .inr ⟨ab, ao, cap, by simp, fun i hi j hj => ?_⟩⟩, by simp; omega⟩
    · obtain ⟨i, hi, rfl⟩ := List.mem_map.1 hr
      exact (hf2 i (by simpa using hi)).1
    · have hi' : i < len := by simpa using hi
      rw [(hf2 i hi').2 j hj]
      simp
end

/-- The listed variables' names. -/
abbrev nz4 : String := Rows.fnListsWithExactRow.named.headD (String.ofList [])
abbrev nz0 : String := Rows.fnListsWithExactRow.named.tail.headD (String.ofList [])
theorem g0 : Tryd.prog.globalNamed nz4 = some 0 := by kernel_rfl
theorem g1 : Tryd.prog.globalNamed nz0 = some 1 := by kernel_rfl
end Go.Proofs.Qxb6609544aDoor
