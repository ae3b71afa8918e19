import Derived.Test.Qxb6609544aDoorQuiet
namespace Go.Proofs.Qxb6609544aDoor
open Go.RowKit Go.Sort

/-- Some bool is handed back. -/
def AnyB (e : Ending) : Prop := ∃ b : Bool, e = .returned (.bool b)
theorem anyB (b : Bool) : AnyB (.returned (.bool b)) := ⟨b, rfl⟩

/-- The ranges l lie in block b from offset o on. -/
def RowAt (w : World) (b o : Nat) (l : List Rg) : Prop := ∀ i (h : i < l.length), ∀ j, j < 8 → w.cell? ⟨b, o + i * 8 + j, none⟩ = (l[i].cells)[j]?

/-- The slice sv holds the ranges l. -/
def IsSl (w : World) (sv : Value) (l : List Rg) : Prop :=
  (∀ r ∈ l, r.ok) ∧ ((sv = .slice none 0 0 ∧ l = []) ∨ ∃ b o cap, sv = .slice (some ⟨b, o, none⟩) l.length cap ∧ RowAt w b o l)

theorem IsSl.gr {w w' : World} {sv : Value} {l : List Rg} (h : IsSl w sv l) (g : Gr w w') : IsSl w' sv l := by
  refine ⟨h.1, ?_⟩
  rcases h.2 with h | ⟨b, o, cap, rfl, hr⟩
  · exact .inl h
  · refine .inr ⟨b, o, cap, rfl, fun i hi j hj => ?_⟩
    have h1 := hr i hi j hj
    rw [List.getElem?_eq_getElem (by simpa [Rg.cells] using hj)] at h1 ⊢
    exact g.cell h1

theorem IsSl.form {w : World} {sv : Value} {l : List Rg} (h : IsSl w sv l) : ∃ a cap, sv = .slice a l.length cap := by
  rcases h.2 with ⟨rfl, rfl⟩ | ⟨b, o, cap, rfl, _⟩
  · exact ⟨none, 0, rfl⟩
  · exact ⟨_, cap, rfl⟩

theorem RowAt.at {w : World} {b o : Nat} {l : List Rg} (h : RowAt w b o l) (i : Nat) (hi : i < l.length) :
    w.cell? ⟨b, o + i * 8, none⟩ = some (.int .u8 l[i].f.a) ∧ w.cell? ⟨b, o + i * 8 + 1, none⟩ = some (.int .u8 l[i].f.b) ∧ w.cell? ⟨b, o + i * 8 + 2, none⟩ = some (.int .u8 l[i].f.c) ∧ w.cell? ⟨b, o + i * 8 + 3, none⟩ = some (.int .u8 l[i].f.d) ∧
    w.cell? ⟨b, o + i * 8 + 4, none⟩ = some (.int .u8 l[i].l.a) ∧ w.cell? ⟨b, o + i * 8 + 5, none⟩ = some (.int .u8 l[i].l.b) ∧ w.cell? ⟨b, o + i * 8 + 6, none⟩ = some (.int .u8 l[i].l.c) ∧ w.cell? ⟨b, o + i * 8 + 7, none⟩ = some (.int .u8 l[i].l.d) :=
  ⟨h i hi 0 (by decide), h i hi 1 (by decide), h i hi 2 (by decide), h i hi 3 (by decide), h i hi 4 (by decide), h i hi 5 (by decide), h i hi 6 (by decide), h i hi 7 (by decide)⟩

set_option maxRecDepth 100000 in
set_option maxHeartbeats 4000000 in
theorem zzBytes22 (a1 a2 : Option Addr) (n1 n2 c1 c2 : Nat) (st : ByteArray) (r : Rg) (w : World) (h1 : n1 ≤ maxLen) (h2 : n2 ≤ maxLen) (h3 : st.size ≤ maxLen) :
    Calls Tryd.prog 22 #[.slice a1 n1 c1, .slice a2 n2 c2, .string st, r.val] w fun e w' => AnyB e ∧ Gr w w' := by
  unfold maxLen at h1 h2 h3
  simp only [Rg.val, Rg.cells]
  go_enter Tryd.func22, Tryd.ntmps22
  go_wp2
  · go_ret
    exact ⟨anyB _, (Gr.refl w).alloc _⟩
  · go_loop [9, 10] (fun vz vi => ∃ (z : Int) (k : Nat), 0 ≤ z ∧ z ≤ 1048576 ∧ k ≤ n1 ∧ vz = .int .i64 z ∧ vi = .int .i64 k) (fun _ vi => n1 - (intOf vi).toNat)
    case atStart => exact ⟨n1, 0, by omega, by omega, by omega, rfl, rfl⟩
    case round =>
      obtain ⟨z, k, hz0, hz, hk, rfl, rfl⟩ := hrel
      by_cases hlt : k < n1
      · go_wp2
        · go_ret
          exact ⟨anyB _, (Gr.refl w).alloc _⟩
        · go_ret
          exact ⟨anyB _, (Gr.refl w).alloc _⟩
        · go_round
          case rel => exact ⟨z + 4 + 4, k + 1, by omega, by omega, by omega, by go_num, by go_num⟩
          case measure => simp [intOf]; omega
      · go_wp2
        · go_ret
          exact ⟨anyB _, (Gr.refl w).alloc _⟩
        · go_ret
          exact ⟨anyB _, (Gr.refl w).alloc _⟩
        · go_loop [9, 11] (fun vz vi => ∃ (z : Int) (k : Nat), 0 ≤ z ∧ z ≤ 1048576 ∧ k ≤ n2 ∧ vz = .int .i64 z ∧ vi = .int .i64 k) (fun _ vi => n2 - (intOf vi).toNat)
          case atStart => exact ⟨z + n2, 0, by omega, by omega, by omega, by go_num, rfl⟩
          case round =>
            obtain ⟨z2, k2, hz20, hz2, hk2, rfl, rfl⟩ := hrel
            by_cases hlt2 : k2 < n2
            · go_wp2
              · go_ret
                exact ⟨anyB _, (Gr.refl w).alloc _⟩
              · go_ret
                exact ⟨anyB _, (Gr.refl w).alloc _⟩
              · go_round
                case rel => exact ⟨z2 + 4 + 4, k2 + 1, by omega, by omega, by omega, by go_num, by go_num⟩
                case measure => simp [intOf]; omega
            · go_wp2
              all_goals
                go_ret
                exact ⟨anyB _, (Gr.refl w).alloc _⟩

set_option maxRecDepth 100000 in
set_option maxHeartbeats 4000000 in
theorem zzBytes19 (a1 a2 : Option Addr) (n1 n2 c1 c2 : Nat) (st : ByteArray) (r : Rg) (w : World) (h1 : n1 ≤ maxLen) (h2 : n2 ≤ maxLen) (h3 : st.size ≤ maxLen) :
    Calls Tryd.prog 19 #[.slice a1 n1 c1, .slice a2 n2 c2, .string st, r.val] w fun e w' => AnyB e ∧ Gr w w' := by
  unfold maxLen at h1 h2 h3
  simp only [Rg.val, Rg.cells]
  go_enter Tryd.func19, Tryd.ntmps19
  go_wp2
  · go_ret
    exact ⟨anyB _, (Gr.refl w).alloc _⟩
  · go_loop [9, 10] (fun vz vi => ∃ (z : Int) (k : Nat), 0 ≤ z ∧ z ≤ 1048576 ∧ k ≤ n1 ∧ vz = .int .i64 z ∧ vi = .int .i64 k) (fun _ vi => n1 - (intOf vi).toNat)
    case atStart => exact ⟨n1, 0, by omega, by omega, by omega, rfl, rfl⟩
    case round =>
      obtain ⟨z, k, hz0, hz, hk, rfl, rfl⟩ := hrel
      by_cases hlt : k < n1
      · go_wp2
        · go_ret
          exact ⟨anyB _, (Gr.refl w).alloc _⟩
        · go_ret
          exact ⟨anyB _, (Gr.refl w).alloc _⟩
        · go_round
          case rel => exact ⟨z + 4 + 4, k + 1, by omega, by omega, by omega, by go_num, by go_num⟩
          case measure => simp [intOf]; omega
      · go_wp2
        · go_ret
          exact ⟨anyB _, (Gr.refl w).alloc _⟩
        · go_ret
          exact ⟨anyB _, (Gr.refl w).alloc _⟩
        · go_loop [9, 11] (fun vz vi => ∃ (z : Int) (k : Nat), 0 ≤ z ∧ z ≤ 1048576 ∧ k ≤ n2 ∧ vz = .int .i64 z ∧ vi = .int .i64 k) (fun _ vi => n2 - (intOf vi).toNat)
          case atStart => exact ⟨z + n2, 0, by omega, by omega, by omega, by go_num, rfl⟩
          case round =>
            obtain ⟨z2, k2, hz20, hz2, hk2, rfl, rfl⟩ := hrel
            by_cases hlt2 : k2 < n2
            · go_wp2
              · go_ret
                exact ⟨anyB _, (Gr.refl w).alloc _⟩
              · go_ret
                exact ⟨anyB _, (Gr.refl w).alloc _⟩
              · go_round
                case rel => exact ⟨z2 + 4 + 4, k2 + 1, by omega, by omega, by omega, by go_num, by go_num⟩
                case measure => simp [intOf]; omega
            · go_wp2
              all_goals
                go_ret
                exact ⟨anyB _, (Gr.refl w).alloc _⟩

end Go.Proofs.Qxb6609544aDoor
