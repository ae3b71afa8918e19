import Derived.Test.Qxb6609544aDoorEof
namespace Go.Proofs.Qxb6609544aDoor
open Go.RowKit Go.Sort

theorem makeE0 (W : World) : (Instr.makeSlice 27 (.int .i64 0) (.int .i64 0)).run Tryd.prog W = .ok (.slice (some ⟨W.heap.size, 0, none⟩) 0 0) (W.alloc (.cells #[] 49)) := by
  have h := makeE 0 (by decide) W
  have e : madeCells zeroE.toArray (0 * 6) = #[] := Array.eq_empty_of_size_eq_zero (by rw [size_madeCells])
  rw [e] at h
  exact h

set_option maxHeartbeats 1000000 in
theorem entriesNil (w : World) : Calls Tryd.prog 10 #[.slice none 0 0] w fun e w' => e = .returned (.slice (some ⟨w.heap.size, 0, none⟩) 0 0) ∧ w'.heap[w.heap.size]? = some (.cells #[] 49 (0, 0)) ∧ Gr w w' := by
  have hmk := makeE0
  go_enter Tryd.func10, Tryd.ntmps10
  go_wp2
  go_loopw [4] (fun vi wr => vi = .int .i64 0 ∧ Gr w wr ∧ wr.heap[w.heap.size]? = some (.cells #[] 49 (0, 0))) (fun _ _ => 0)
  case atStart => exact ⟨rfl, (Gr.refl w).alloc _, new1 w _⟩
  case round =>
    obtain ⟨rfl, hg, hb⟩ := hrel
    go_wp2
    go_ret
    exact ⟨rfl, hb, hg⟩

/-- entriesOf at whatever slice. -/
theorem entries10 (pz : Addr) (sv : Value) (l : List Rg) (hl : l.length ≤ 1048576) (w : World) (h : IsSl w sv l) (hz : Zs pz w) :
    Calls Tryd.prog 10 #[sv] w fun e w' => e = .returned (.slice (some ⟨w.heap.size, 0, none⟩) l.length l.length) ∧ w'.heap[w.heap.size]? = some (.cells (flatE pz l).toArray 49 (0, 0)) ∧ Gr w w' := by
  obtain ⟨hok, ⟨rfl, rfl⟩ | ⟨b, o, cap, rfl, hr⟩⟩ := h
  · exact entriesNil w
  · exact entriesOf pz b o cap l.length l rfl hl hok w hr hz
end Go.Proofs.Qxb6609544aDoor
