/- A region that only reads and whose callees leave old memory as it was (whatever they draw): one walk. -/
import Derived.Test.Qxb6609544aDoorQuiet
namespace Go.Proofs.Qxb6609544aDoor
open Go.RowKit Go.Sort

/-- The same world, so many draws later. -/
def setD (w : World) (n : Nat) : World := { w with drawn := n }

theorem wp_region_quiet_below {P : Program} {id : Nat} {Q : Exit → Act → World → Prop} {a : Act} {w : World} {l : List Oper} (hm : P.follows .mixedOrders = true) (hB : Region.lexB .any l.toArray = true)
    (h : wpQuiet P l.toArray (fun w' => ∃ p : GrownBy, w' = grow (setD w p.n) p.os) (fun a' => ∀ w', (∃ p : GrownBy, w' = grow (setD w p.n) p.os) → Q .normal a' w') l a) : (Code.region id l.toArray true).wp P Q a w :=
  wp_region_quiet (C := fun w' => ∃ p : GrownBy, w' = grow (setD w p.n) p.os) hm hB ⟨⟨w.drawn + 1, #[]⟩, by rw [grow_empty]; rfl⟩ (by simpa using h)

theorem bw_asGrow {w w' : World} (h : Below w.heap.size w w') : ∃ q os, w' = grow (setD w q) os := by
  refine ⟨w'.drawn, w'.heap.extract w.heap.size w'.heap.size, ?_⟩
  obtain ⟨heap', tape', drawn', os', output'⟩ := w'
  have e1 : os' = w.os := h.os
  have e2 : tape' = w.tape := h.tape
  have e3 : output' = w.output := h.output
  have hs : w.heap.size ≤ heap'.size := h.size
  have hb : ∀ k, k < w.heap.size → heap'[k]? = w.heap[k]? := h.block
  subst e1 e2 e3
  have e5 : heap' = w.heap ++ heap'.extract w.heap.size heap'.size := by
    apply Array.ext_getElem?
    intro i
    rw [Array.getElem?_append]
    by_cases hi : i < w.heap.size
    · rw [if_pos hi]; exact hb i hi
    · rw [if_neg hi, Array.getElem?_extract]
      by_cases h2 : i < heap'.size
      · rw [if_pos (by omega)]
        congr 1
        omega
      · rw [if_neg (by omega), Array.getElem?_eq_none (by omega)]
  show World.mk heap' w.tape drawn' w.os w.output = World.mk (w.heap ++ heap'.extract w.heap.size heap'.size) w.tape drawn' w.os w.output
  rw [← e5]

theorem bw_of (w : World) (q : Nat) (os : Array Obj) : Below w.heap.size w (grow (setD w q) os) :=
  ⟨rfl, rfl, rfl, by simp [grow, setD], fun k hk => heap_grow_old (setD w q) os hk⟩

theorem bw_ofEx {w w1 : World} (h : ∃ p : GrownBy, w1 = grow (setD w p.n) p.os) : Below w.heap.size w w1 := by
  obtain ⟨p, rfl⟩ := h
  exact bw_of w p.n p.os

/-- A contract that ends in 'Below', as such a walk asks it. -/
theorem callsB {f : FuncId} {args : Array Value} {w : World} {n : Nat} {os : Array Obj} {v : Value}
    (h : Calls Tryd.prog f args (grow (setD w n) os) fun e w' => e = .returned v ∧ Below (grow (setD w n) os).heap.size (grow (setD w n) os) w') : Calls Tryd.prog f args (grow (setD w n) os) fun e w'' => e = .returned v ∧ ∃ p : GrownBy, w'' = grow (setD w p.n) p.os := by
  refine h.mono fun _ _ ⟨he, hg⟩ => ⟨he, ?_⟩
  have b1 := bw_of w n os
  obtain ⟨q, os', e⟩ := bw_asGrow (b1.trans (hg.mono b1.size))
  exact ⟨⟨q, os'⟩, e⟩

theorem cellB (W : World) (n : Nat) (os : Array Obj) (b o : Nat) (h : b < W.heap.size) : (grow (setD W n) os).cell? ⟨b, o, none⟩ = W.cell? ⟨b, o, none⟩ := cell?_grow (setD W n) os ⟨b, o, none⟩ h
end Go.Proofs.Qxb6609544aDoor
