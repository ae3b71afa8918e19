import Derived.Test.Qxb6609544aDoorSort
namespace Go.Proofs.Qxb6609544aDoor
open Go.RowKit Go.Sort

theorem eqAddr (d : Nat) (p q : Nat) (pz : Addr) (w : World) : (Op.equalIn (d + 4) 47 (.agg #[.int .u64 0, .int .u64 p, .pointer (some pz)]) (.agg #[.int .u64 0, .int .u64 q, .pointer (some pz)])).run Tryd.prog w = .ok (p == q) w := by
  have h47 : Tryd.prog.underlying 47 = some (.struct (Tryd.prog.fieldsOf 47)) := by kernel_rfl
  have s47 : Tryd.prog.stoodInHeld 47 = false := by kernel_rfl
  have h42 : Tryd.prog.underlying 42 = some (.struct (Tryd.prog.fieldsOf 42)) := by kernel_rfl
  have s42 : Tryd.prog.stoodInHeld 42 = false := by kernel_rfl
  have h45 : Tryd.prog.underlying 45 = some (.struct (Tryd.prog.fieldsOf 45)) := by kernel_rfl
  have s45 : Tryd.prog.stoodInHeld 45 = false := by kernel_rfl
  have e42 : ∀ W, (Op.equalIn (d + 3) 42 (.agg #[.int .u64 0, .int .u64 p]) (.agg #[.int .u64 0, .int .u64 q])).run Tryd.prog W = .ok (p == q) W := fun W => by
    rw [run_equalIn_agg W (d + 2) 42 _ _ h42 s42]
    simp only [Program.fieldsOf, Tryd.underlying42]
    go_simp
    by_cases h : p = q
    · subst h; simp
    · have h' : (p == q) = false := by simpa using h
      simp [h']
      omega
  have e45 : ∀ W, (Op.equalIn (d + 3) 45 (.agg #[.pointer (some pz)]) (.agg #[.pointer (some pz)])).run Tryd.prog W = .ok true W := fun W => by
    rw [run_equalIn_agg W (d + 2) 45 _ _ h45 s45]
    simp only [Program.fieldsOf, Tryd.underlying45]
    go_simp
    simp [eqP_same_d (d + 1) 43 _ Tryd.underlying43 _ Tryd.sizeOf113, Result.andThen]
  rw [run_equalIn_agg w (d + 3) 47 _ _ h47 s47]
  simp only [Program.fieldsOf, Tryd.underlying47]
  go_simp
  by_cases h : p = q
  · subst h; simp
  · have h' : (p == q) = false := by simpa using h
    simp [h, h']

theorem eqEnt_d (d : Nat) (a b c e : Nat) (pz : Addr) (w : World) : (Op.equalIn (d + 5) 49 (.agg #[.int .u64 0, .int .u64 a, .pointer (some pz), .int .u64 0, .int .u64 b, .pointer (some pz)]) (.agg #[.int .u64 0, .int .u64 c, .pointer (some pz), .int .u64 0, .int .u64 e, .pointer (some pz)])).run Tryd.prog w = .ok (a == c && b == e) w := by
  have h49 : Tryd.prog.underlying 49 = some (.struct (Tryd.prog.fieldsOf 49)) := by kernel_rfl
  have s49 : Tryd.prog.stoodInHeld 49 = false := by kernel_rfl
  have e1 := eqAddr d a c pz
  have e2 := eqAddr d b e pz
  rw [run_equalIn_agg w (d + 4) 49 _ _ h49 s49]
  simp only [Program.fieldsOf, Tryd.underlying49]
  go_simp
  by_cases h : a = c
  · subst h
    by_cases h2 : b = e
    · subst h2; simp
    · have h2' : (b == e) = false := by simpa using h2
      simp [h2, h2']
  · have h' : (a == c) = false := by simpa using h
    simp [h, h']

theorem lo_key {r s : Rg} (hr : r.ok) (hs : s.ok) : (lo r.f == lo s.f && lo r.l == lo s.l) = (r.key == s.key) := by
  have h1 := Ad.num_lt hr.2
  have h2 := Ad.num_lt hs.2
  rw [Bool.eq_iff_iff]
  simp only [Bool.and_eq_true, beq_iff_eq, lo, Rg.key]
  constructor
  · rintro ⟨a, b⟩; omega
  · intro h; omega

theorem eqE {r s : Rg} (hr : r.ok) (hs : s.ok) (pz : Addr) (w : World) : (binOp .eql 49 (.agg (r.ent pz).toArray) (.agg (s.ent pz).toArray)).run Tryd.prog w = .ok (.bool (r.key == s.key)) w := by
  rw [run_eql_struct, ← lo_key hr hs]
  have := eqEnt_d 9995 (lo r.f) (lo r.l) (lo s.f) (lo s.l) pz w
  simp only [Rg.ent]
  rw [show (10000 : Nat) = 9995 + 5 from rfl, this]
  rfl

theorem neE {r s : Rg} (hr : r.ok) (hs : s.ok) (pz : Addr) (w : World) : (binOp .neq 49 (.agg (r.ent pz).toArray) (.agg (s.ent pz).toArray)).run Tryd.prog w = .ok (.bool (!(r.key == s.key))) w := by
  rw [run_neq_struct, ← lo_key hr hs]
  have := eqEnt_d 9995 (lo r.f) (lo r.l) (lo s.f) (lo s.l) pz w
  simp only [Rg.ent]
  rw [show (10000 : Nat) = 9995 + 5 from rfl, this]
  rfl
end Go.Proofs.Qxb6609544aDoor
