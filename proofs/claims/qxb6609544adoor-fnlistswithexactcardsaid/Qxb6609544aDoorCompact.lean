import Derived.Test.Qxb6609544aDoorEq
import Derived.Test.Qxb6609544aDoorClone
import Derived.Lib.SlicesCompact
import Derived.Deep.LoopGhost
namespace Go.Proofs.Qxb6609544aDoor
open Go.RowKit Go.Sort Go.Lib

abbrev inhR : Inhabited Rg := ⟨⟨⟨0, 0, 0, 0⟩, ⟨0, 0, 0, 0⟩⟩⟩
abbrev decR : DecidableEq Rg := fun x y => decidable_of_iff ((x.f.a = y.f.a ∧ x.f.b = y.f.b ∧ x.f.c = y.f.c ∧ x.f.d = y.f.d) ∧ (x.l.a = y.l.a ∧ x.l.b = y.l.b ∧ x.l.c = y.l.c ∧ x.l.d = y.l.d)) (by
  obtain ⟨⟨a, b, c, d⟩, ⟨e, f, g, h⟩⟩ := x
  obtain ⟨⟨a', b', c', d'⟩, ⟨e', f', g', h'⟩⟩ := y
  simp)

/-- What slices.Compact leaves of l. -/
def cpt (l : List Rg) : List Rg := letI := inhR; letI := decR; compactUpTo l.toArray l.length

/-- The row of a slice's entries, at an array. -/
theorem entArr {pz : Addr} {w : World} {g : Nat} {dk : Array Rg} (h : EntAt pz w g 0 dk.toList) (i : Nat) (hi : i < dk.size) : letI := inhR;
    w.cell? ⟨g, i * 6, none⟩ = some (.int .u64 0) ∧ w.cell? ⟨g, i * 6 + 1, none⟩ = some (.int .u64 (lo dk[i]!.f : Nat)) ∧ w.cell? ⟨g, i * 6 + 2, none⟩ = some (.pointer (some pz)) ∧
    w.cell? ⟨g, i * 6 + 3, none⟩ = some (.int .u64 0) ∧ w.cell? ⟨g, i * 6 + 4, none⟩ = some (.int .u64 (lo dk[i]!.l : Nat)) ∧ w.cell? ⟨g, i * 6 + 5, none⟩ = some (.pointer (some pz)) := by
  letI := inhR
  have e : dk[i]! = dk[i] := getElem!_pos dk i hi
  rw [e]
  have h' := fun j hj => h i (by simpa using hi) j hj
  simp only [Nat.zero_add, Array.getElem_toList] at h'
  exact ⟨h' 0 (by decide), h' 1 (by decide), h' 2 (by decide), h' 3 (by decide), h' 4 (by decide), h' 5 (by decide)⟩

/-- The model's == and != on two entries, in the cells' own words. -/
def EqX (pz : Addr) (p q p' q' : Nat) (b : Bool) : Prop :=
    (∀ w, (binOp .eql 49 (.agg #[.int .u64 0, .int .u64 p, .pointer (some pz), .int .u64 0, .int .u64 q, .pointer (some pz)]) (.agg #[.int .u64 0, .int .u64 p', .pointer (some pz), .int .u64 0, .int .u64 q', .pointer (some pz)])).run Tryd.prog w = .ok (.bool b) w) ∧
    (∀ w, (binOp .neq 49 (.agg #[.int .u64 0, .int .u64 p, .pointer (some pz), .int .u64 0, .int .u64 q, .pointer (some pz)]) (.agg #[.int .u64 0, .int .u64 p', .pointer (some pz), .int .u64 0, .int .u64 q', .pointer (some pz)])).run Tryd.prog w = .ok (.bool (!b)) w)

theorem eqX {x y : Rg} (hx : x.ok) (hy : y.ok) (pz : Addr) : EqX pz (lo x.f) (lo x.l) (lo y.f) (lo y.l) (x.key == y.key) := ⟨eqE hx hy pz, neE hx hy pz⟩

/-- Six cells of an entry. -/
def Six (w : World) (pz : Addr) (g o p q : Nat) : Prop :=
    w.cell? ⟨g, o, none⟩ = some (.int .u64 0) ∧ w.cell? ⟨g, o + 1, none⟩ = some (.int .u64 p) ∧ w.cell? ⟨g, o + 2, none⟩ = some (.pointer (some pz)) ∧
    w.cell? ⟨g, o + 3, none⟩ = some (.int .u64 0) ∧ w.cell? ⟨g, o + 4, none⟩ = some (.int .u64 q) ∧ w.cell? ⟨g, o + 5, none⟩ = some (.pointer (some pz))

theorem EntAt.six {pz : Addr} {w : World} {g : Nat} {dk : Array Rg} (h : EntAt pz w g 0 dk.toList) (i : Nat) (hi : i < dk.size) : letI := inhR; Six w pz g (i * 6) (lo dk[i]!.f) (lo dk[i]!.l) := entArr h i hi

/-- What the second loop keeps: the entries dk lie in block g, and only g was written. -/
def Now (pz : Addr) (w wr : World) (g : Nat) (dk : Array Rg) : Prop := EntAt pz wr g 0 dk.toList ∧ Free wr g ∧ w.grownBy wr (some g)

theorem Now.drewN {pz : Addr} {w wr : World} {g : Nat} {dk : Array Rg} (h : Now pz w wr g dk) (q : Nat) : Now pz w (wr.drewN q) g dk := ⟨h.1, h.2.1, ⟨h.2.2.os, h.2.2.tape, h.2.2.output, h.2.2.size, h.2.2.block⟩⟩

theorem grownBy_setCells (g : Nat) : ∀ (vs : List Value) (o : Nat) (w : World), w.grownBy (w.setCells g o vs) (some g)
  | [], _, w => World.grownBy.refl w _
  | v :: r, o, w => by
    have h1 : w.grownBy (w.setCell ⟨g, o, none⟩ v) (some g) := ⟨rfl, rfl, rfl, by simp, fun k hk hne => by
      unfold World.setCell
      simp only [Array.getElem?_modify]
      rw [if_neg (fun e => hne (by rw [e]))]⟩
    exact h1.trans (grownBy_setCells g r (o + 1) _)

theorem Now.setCells {pz : Addr} {w wr : World} {g : Nat} {dk dk' : Array Rg} (h : Now pz w wr g dk) (o : Nat) (vs : List Value) (he : EntAt pz (wr.setCells g o vs) g 0 dk'.toList) : Now pz w (wr.setCells g o vs) g dk' := by
  refine ⟨he, fun x => by rw [World.frozen?_setCells]; exact h.2.1 x, ?_⟩
  exact h.2.2.trans (grownBy_setCells g vs o wr)

theorem Now.set {pz : Addr} {w wr : World} {g : Nat} {dk : Array Rg} (h : Now pz w wr g dk) (i : Nat) (hi : i < dk.size) (r : Rg) : Now pz w (wr.setCells g (i * 6) (r.ent pz)) g (dk.setIfInBounds i r) := by
  have hl : (r.ent pz).length = 6 := rfl
  refine h.setCells _ _ (fun k hk j hj => ?_)
  have hk' : k < dk.size := by simpa using hk
  by_cases e : k = i
  · subst e
    have h2 := World.cell?_setCells_in g (r.ent pz) (k * 6) wr (fun j hj => by
      have := h.1 k (by simpa using hk') j (by omega)
      rw [Nat.zero_add] at this
      rw [this, ent_get _ _ _ (by omega)]; rfl) j (by omega)
    rw [Nat.zero_add, h2]
    simp [List.getElem?_eq_getElem (l := r.ent pz) (i := j) (by omega)]
  · rw [World.cell?_setCells_out g (r.ent pz) (i * 6) wr _ (fun _ _ => by show 0 + k * 6 + j < i * 6 ∨ i * 6 + (r.ent pz).length ≤ 0 + k * 6 + j; omega)]
    have := h.1 k (by simpa using hk') j hj
    rw [this]
    simp [Ne.symm e]

/-- clear over entries. -/
theorem clearE (w : World) (g o n c : Nat) (hn : 0 < n) (hc : ∀ j, j < n * 6 → (w.cell? ⟨g, o + j, none⟩).isSome = true) (hf : Free w g) :
    ∃ vs, ∀ ty, (Builtin.clear_ #[27] ty #[.slice (some ⟨g, o, none⟩) n c]).run Tryd.prog w = .ok (.tuple #[]) (w.setCells g o vs) := by
  refine ⟨(Builtin.zeroCells zeroE.toArray n).toList, fun ty => ?_⟩
  have hl : (Builtin.zeroCells zeroE.toArray n).toList.length = n * 6 := by simp [size_zeroCells, zeroE]
  have hone : ∀ v ∈ (Builtin.zeroCells zeroE.toArray n).toList, v.oneCell' = true := by
    intro v hv
    simp only [Builtin.zeroCells, Array.toList_map, List.mem_map] at hv
    obtain ⟨i, _, rfl⟩ := hv
    have hi : i % zeroE.toArray.size < 6 := Nat.mod_lt _ (by decide)
    generalize i % zeroE.toArray.size = j at *
    rcases j with _ | _ | _ | _ | _ | _ | j
    · rfl
    · rfl
    · rfl
    · rfl
    · rfl
    · rfl
    · omega
  have hst := run_storeCells_cells (P := Tryd.prog) g o _ 0 w (by rw [hl]; simpa using hc) (fun j _ => hf _) hone
  simp only [Nat.add_zero] at hst
  obtain ⟨m, rfl⟩ : ∃ m, n = m + 1 := ⟨n - 1, by omega⟩
  simp only [zeroE] at hst ⊢
  simp [Builtin.clear_, run_underlying Tryd.underlying27, Tryd.zeroValue49, Value.cells, hst]


theorem keeps_b {d : Array Rg} {n i : Nat} (hok : letI := inhR; ∀ i, i < n → (d[i]!).ok) (hi : i + 1 < n) : letI := inhR; letI := decR; ∃ b : Bool, ((d[i + 1]!).key == (d[i]!).key) = b ∧ (b = true → keeps d (i + 1) = false) ∧ (b = false → keeps d (i + 1) = true) := by
  letI := inhR
  letI := decR
  refine ⟨_, rfl, fun h => ?_, fun h => ?_⟩
  · exact keeps_neg (by omega) (key_inj (hok _ hi) (hok _ (by omega)) (by simpa using h))
  · refine keeps_pos (fun e => ?_)
    rw [Nat.add_sub_cancel] at e
    rw [e] at h
    simp at h

/-- What a look at two neighbours of row wr tells. -/
theorem lookAt {pz : Addr} {w wr : World} {g n : Nat} {d dk : Array Rg} {i : Nat} (hok : letI := inhR; ∀ i, i < n → (d[i]!).ok) (h : Now pz w wr g dk) (hs : dk.size = n) (hi : i + 1 < n) (h1 : letI := inhR; dk[i]! = d[i]!) (h2 : letI := inhR; dk[i + 1]! = d[i + 1]!) :
    letI := inhR; letI := decR; ∃ (p q p' q' : Nat) (b : Bool), Six wr pz g ((i + 1) * 6) p q ∧ Six wr pz g (i * 6) p' q' ∧ EqX pz p q p' q' b ∧ Hid ((b = true → keeps d (i + 1) = false) ∧ (b = false → keeps d (i + 1) = true) ∧ p = lo (d[i + 1]!).f ∧ q = lo (d[i + 1]!).l) := by
  letI := inhR
  letI := decR
  obtain ⟨b, hb, hb1, hb2⟩ := keeps_b hok hi
  have s1 := h.1.six (i + 1) (by omega)
  have s2 := h.1.six i (by omega)
  rw [h2] at s1
  rw [h1] at s2
  refine ⟨_, _, _, _, b, s1, s2, ?_, hb1, hb2, rfl, rfl⟩
  have := eqX (hok (i + 1) hi) (hok i (by omega)) pz
  rwa [hb] at this

end Go.Proofs.Qxb6609544aDoor
