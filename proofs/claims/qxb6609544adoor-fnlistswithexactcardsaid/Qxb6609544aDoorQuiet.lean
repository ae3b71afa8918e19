/- A region that only reads and whose callees only make memory: one walk. -/
import Derived.Test.Qxb6609544aDoorBase
import Derived.Shelf.SlSortCmp.QuietGrown
namespace Go.Proofs.Qxb6609544aDoor
open Go.RowKit Go.Sort

theorem mixed : Tryd.prog.follows .mixedOrders = true := by kernel_rfl

theorem Gr.asGrow {w w' : World} (h : Gr w w') : ∃ q os, w' = grow (w.drewN q) os := by
  refine ⟨w'.drawn - w.drawn, w'.heap.extract w.heap.size w'.heap.size, ?_⟩
  obtain ⟨heap', tape', drawn', os', output'⟩ := w'
  obtain ⟨h, hd⟩ := h
  have e1 : os' = w.os := h.os
  have e2 : tape' = w.tape := h.tape
  have e3 : output' = w.output := h.output
  have hs : w.heap.size ≤ heap'.size := h.size
  have hb : ∀ k, k < w.heap.size → heap'[k]? = w.heap[k]? := h.block
  have hdr : w.drawn ≤ drawn' := hd
  subst e1 e2 e3
  have e4 : drawn' = w.drawn + (drawn' - w.drawn) := by omega
  have e5 : heap' = w.heap ++ heap'.extract w.heap.size heap'.size := by
    apply Array.ext_getElem?
    intro i
    rw [Array.getElem?_append]
    by_cases hi : i < w.heap.size
    · rw [if_pos hi]; exact hb i hi
    · rw [if_neg hi, Array.getElem?_extract]
      by_cases h2 : i < heap'.size
      · rw [if_pos (by omega)]
        congr 1
        omega
      · rw [if_neg (by omega), Array.getElem?_eq_none (by omega)]
  show World.mk heap' w.tape drawn' w.os w.output = World.mk (w.heap ++ heap'.extract w.heap.size heap'.size) w.tape (w.drawn + (drawn' - w.drawn)) w.os w.output
  rw [← e4, ← e5]

theorem Gr.of (w : World) (q : Nat) (os : Array Obj) : Gr w (grow (w.drewN q) os) :=
  ⟨⟨rfl, rfl, rfl, by simp [grow, World.drewN], fun k hk => heap_grow_old (w.drewN q) os hk⟩, Nat.le_add_right _ _⟩

theorem Gr.ofEx {w w1 : World} (h : ∃ p : GrownBy, w1 = grow (w.drewN p.n) p.os) : Gr w w1 := by
  obtain ⟨p, rfl⟩ := h
  exact Gr.of w p.n p.os

/-- A contract that ends in 'Gr', as a quiet walk asks it. -/
theorem callsQ {f : FuncId} {args : Array Value} {w : World} {n : Nat} {os : Array Obj} {v : Value}
    (h : Calls Tryd.prog f args (grow (w.drewN n) os) fun e w' => e = .returned v ∧ Gr (grow (w.drewN n) os) w') : Calls Tryd.prog f args (grow (w.drewN n) os) fun e w'' => e = .returned v ∧ ∃ p : GrownBy, w'' = grow (w.drewN p.n) p.os :=
  Calls.grown_of (h.mono fun _ _ ⟨he, hg⟩ => ⟨he, hg.asGrow⟩)

theorem cellQ (W : World) (n : Nat) (os : Array Obj) (b o : Nat) (h : b < W.heap.size) : (grow (W.drewN n) os).cell? ⟨b, o, none⟩ = W.cell? ⟨b, o, none⟩ := cell?_grow (W.drewN n) os ⟨b, o, none⟩ h
theorem frozenQ (W : World) (n : Nat) (os : Array Obj) (b o : Nat) (h : b < W.heap.size) : (grow (W.drewN n) os).frozen? ⟨b, o, none⟩ = W.frozen? ⟨b, o, none⟩ := frozen?_grow (W.drewN n) os ⟨b, o, none⟩ h
end Go.Proofs.Qxb6609544aDoor
