/- Small facts for the two laws. -/
import Derived.Test.Qxb6609544aDoorTreeP
import Derived.Test.Qxb6609544aDoorIn3
import Derived.Test.Qxb6609544aDoorEnil
import Derived.LaidEqlPtr
namespace Go.Proofs.Qxb6609544aDoor
open Go.RowKit Go.Sort Go.Deep

theorem list_of {st : ByteArray} (h : (st.toList == [97, 108, 108, 111, 119]) = true ∨ (st.toList == [100, 101, 110, 121]) = true) : ∃ a : Bool, (st.toList == [97, 108, 108, 111, 119]) = a ∧ st = listS a := by
  have ext : ∀ (l : List UInt8), (st.toList == l) = true → st = ⟨l.toArray⟩ := fun l h => by
    have e : st.toList = l := by simpa using h
    obtain ⟨d⟩ := st
    rw [Lib.toList_data] at e
    have e2 : d.toList = l := e
    rw [← e2]
  rcases h with h | h
  · exact ⟨true, h, ext _ h⟩
  · refine ⟨false, ?_, ext _ h⟩
    have e : st.toList = [100, 101, 110, 121] := by simpa using h
    rw [e]
    decide

theorem info70 : ∃ i, Tryd.prog.info? 70 = some i ∧ i.size = 12 := by
  have h : (Tryd.prog.info? 70).map (·.size) = some 12 := by kernel_rfl
  cases e : Tryd.prog.info? 70 with
  | none => rw [e] at h; cases h
  | some i => rw [e] at h; exact ⟨i, rfl, by simpa using h⟩
theorem info59 : ∃ i, Tryd.prog.info? 59 = some i ∧ i.size = 2 := by
  have h : (Tryd.prog.info? 59).map (·.size) = some 2 := by kernel_rfl
  cases e : Tryd.prog.info? 59 with
  | none => rw [e] at h; cases h
  | some i => rw [e] at h; exact ⟨i, rfl, by simpa using h⟩

theorem neNode (o : Option Addr) (w : World) : (binOp .neq 30 (.pointer o) (.pointer o)).run Tryd.prog w = .ok (.bool false) w := by
  cases o with
  | none => exact run_neq_pointer_nil w 30 none (by kernel_rfl)
  | some a =>
    obtain ⟨i, hi, _⟩ := info70
    have h : ∀ d : Nat, (Op.equalIn (d + 1) 30 (.pointer (some a)) (.pointer (some a))).run Tryd.prog w = .ok true w := fun d => by
      simp [Op.equalIn, run_underlying Tryd.underlying30, sizeOf, typeInfo, hi, run_sameAddr_same]
    simp only [binOp]
    simp [Op.equal, Op.maxDepth, h 9999]
theorem eqNode (o : Option Addr) (w : World) : (binOp .eql 30 (.pointer o) (.pointer o)).run Tryd.prog w = .ok (.bool true) w := by
  cases o with
  | none => exact run_eql_pointer_nil w 30 none (by kernel_rfl)
  | some a =>
    obtain ⟨i, hi, _⟩ := info70
    exact run_eql_ptr_same w a Tryd.underlying30 hi

theorem neLists {w : World} {c b : Nat} {p q p' q' : Value} (hc : LsAt w c p q) (hb : LsAt w b p' q') (h : c ≠ b) : (binOp .eql 25 (.pointer (some ⟨c, 0, none⟩)) (.pointer (some ⟨b, 0, none⟩))).run Tryd.prog w = .ok (.bool false) w := by
  obtain ⟨i, hi, hs⟩ := info59
  exact run_eql_ptr_other w Tryd.underlying25 hi (by omega) (by intro e; injection e with e; exact h e) hc hb

theorem gb {f : FuncId} {args : Array Value} {w : World} {v : Value} (h : Calls Tryd.prog f args w fun e w' => e = .returned v ∧ Gr w w') : Calls Tryd.prog f args w fun e w' => e = .returned v ∧ Below w.heap.size w w' := h.mono fun _ _ ⟨a, b⟩ => ⟨a, b.1⟩
theorem LsAt.below {w w' : World} {b : Nat} {p q : Value} (h : LsAt w b p q) (g : Below w.heap.size w w') : LsAt w' b p q := (g.block b (ndL h)).trans h
theorem SetOf.okE {t : TT} {l : List Rg} (h : SetOf t l) (hl : ∀ r ∈ l, r.ok) : ∀ r ∈ els t, r.ok := fun r hr => hl r ((h.1 r).1 hr)
theorem len_sub : ∀ (l m : List Rg), l.Pairwise (fun x y => x.key < y.key) → (∀ x ∈ l, x ∈ m) → l.length ≤ m.length
  | [], m, _, _ => by simp
  | a :: l, m, hn, h => by
    obtain ⟨s, u, rfl⟩ := List.append_of_mem (h a (by simp))
    rw [List.pairwise_cons] at hn
    have := len_sub l (s ++ u) hn.2 (fun x hx => by
      have h1 := h x (by simp [hx])
      have hne : x ≠ a := by
        rintro rfl
        have := hn.1 x hx
        omega
      simp [hne] at h1 ⊢
      exact h1)
    simp at this ⊢
    omega
/-- A sorted row of members of l is no longer than l. -/
theorem SetOf.cntE {t : TT} {l : List Rg} (h : SetOf t l) : cnt t ≤ l.length := by
  rw [← els_len]
  exact len_sub _ _ h.2.1 (fun r hr => (h.1 r).1 hr)
end Go.Proofs.Qxb6609544aDoor
