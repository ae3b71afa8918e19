import Derived.Test.Qxb6609544aDoorEof
import Derived.Test.Qxb6609544aDoorCmp3
import Derived.Test.Qxb6609544aDoorLay
import Derived.Shelf.SlSortCmp.NoneTotal
namespace Go.Proofs.Qxb6609544aDoor
open Go.RowKit Go.Sort

/-- One number for the order of ranges. -/
def Rg.key (r : Rg) : Nat := r.f.num * 4294967296 + r.l.num

theorem key_inj {r s : Rg} (hr : r.ok) (hs : s.ok) (h : r.key = s.key) : r = s := by
  have h1 := Ad.num_lt hr.2
  have h2 := Ad.num_lt hs.2
  unfold Rg.key at h
  have e1 : r.f = s.f := Ad.num_inj hr.1 hs.1 (by omega)
  have e2 : r.l = s.l := Ad.num_inj hr.2 hs.2 (by omega)
  obtain ⟨f, l⟩ := r
  obtain ⟨f', l'⟩ := s
  simp only at e1 e2
  rw [e1, e2]

theorem cmpR_key {r s : Rg} (hr : r.ok) (hs : s.ok) : cmpR r s = cmpN r.key s.key := by
  have h1 := Ad.num_lt hr.2
  have h2 := Ad.num_lt hs.2
  unfold cmpR cmpN Rg.key
  split <;> (repeat' split) <;> omega

theorem orI_key {r s : Rg} (hr : r.ok) (hs : s.ok) : orI (cmpN (lo r.f) (lo s.f)) (cmpN (lo r.l) (lo s.l)) = cmpN r.key s.key := by
  have h1 := Ad.num_lt hr.2
  have h2 := Ad.num_lt hs.2
  unfold orI cmpN Rg.key lo
  repeat' split
  all_goals omega

theorem entCmp (r s : Rg) (hr : r.ok) (hs : s.ok) (pz : Addr) (w : World) (hz : Zs pz w) :
    Calls Tryd.prog 32 #[.agg (r.ent pz).toArray, .agg (s.ent pz).toArray] w fun e w' => e = .returned (.int .i64 (cmpN r.key s.key)) ∧ Gr w w' := by
  rw [← orI_key hr hs]
  exact entCompare r s pz w hz

theorem rgCmp (r s : Rg) (hr : r.ok) (hs : s.ok) (w : World) :
    Calls Tryd.prog 46 #[r.val, s.val] w fun e w' => e = .returned (.int .i64 (cmpN r.key s.key)) ∧ Gr w w' := by
  rw [← cmpR_key hr hs]
  exact cmpRange r s hr hs w

/-- The entries l lie in block g from offset o on. -/
def EntAt (pz : Addr) (w : World) (g o : Nat) (l : List Rg) : Prop := ∀ i (h : i < l.length), ∀ j, j < 6 → w.cell? ⟨g, o + i * 6 + j, none⟩ = (l[i].ent pz)[j]?
/-- No cell of block g is frozen. -/
def Free (w : World) (g : Nat) : Prop := ∀ o, w.frozen? ⟨g, o, none⟩ = false

theorem ent_get (r : Rg) (pz : Addr) (j : Nat) (hj : j < 6) : (r.ent pz)[j]? = some ((r.ent pz)[j]!) := by
  rw [List.getElem?_eq_getElem (by simpa [Rg.ent] using hj)]
  simp [hj, Rg.ent]

/-- A range that is one. -/
abbrev VRg := { r : Rg // r.ok }
abbrev inhV : Inhabited VRg := ⟨⟨⟨⟨0, 0, 0, 0⟩, ⟨0, 0, 0, 0⟩⟩, by unfold Rg.ok Ad.ok; decide⟩⟩
def cfV (x y : VRg) : Int := cmpN x.1.key y.1.key
def encV (pz : Addr) (x : VRg) : List Value := x.1.ent pz

theorem ltV (x y : VRg) : ltOf cfV x y = decide (x.1.key < y.1.key) := by
  unfold ltOf cfV cmpN
  by_cases h1 : x.1.key < y.1.key
  · simp [h1]
  · by_cases h2 : y.1.key < x.1.key <;> simp [h1, h2]

theorem swoV : SWO (ltOf cfV) := {
  irrefl := fun x => by rw [ltV]; simp
  trans := fun x y z h1 h2 => by rw [ltV] at *; simp at *; omega
  ntrans := fun x y z h1 h2 => by rw [ltV] at *; simp at *; omega }

theorem cmpLaysV (pz : Addr) (w : World) (hz : Zs pz w) (g n : Nat) (hg : 1 < g) : letI := inhV; CmpLays Tryd.prog 32 #[] (encV pz) 6 cfV g 0 n w := by
  letI := inhV
  intro m os dk hdk x y
  have hz' : Zs pz (sortWorldK (encV pz) 6 w g 0 m dk os) := by
    unfold sortWorldK
    have hl0 := World.block_lt_of_cell? _ _ hz.1
    have hl1 := World.block_lt_of_cell? _ _ hz.2
    simp only at hl0 hl1
    refine ⟨?_, ?_⟩
    · rw [cell?_grow _ _ _ (by simp [putRowK]; exact hl0), cell?_putRowK_other (encV pz) 6 _ _ _ _ _ (by show (0 : Nat) ≠ g; omega)]
      exact hz.1
    · rw [cell?_grow _ _ _ (by simp [putRowK]; exact hl1), cell?_putRowK_other (encV pz) 6 _ _ _ _ _ (by show (1 : Nat) ≠ g; omega)]
      exact hz.2
  have h := entCmp x.1 y.1 x.2 y.2 pz (sortWorldK (encV pz) 6 w g 0 m dk os) hz'
  exact h.mono fun e w' ⟨he, hgr⟩ => ⟨he, hgr.asGrow⟩

theorem holdsV (pz : Addr) (w : World) (g : Nat) (d : Array VRg) (h : EntAt pz w g 0 (d.toList.map (·.1))) (hf : Free w g) : letI := inhV; HoldsK (encV pz) 6 w g 0 d := by
  letI := inhV
  intro j hj
  rw [size_flatK] at hj
  refine ⟨?_, hf _⟩
  have hd : j / 6 < d.size := by omega
  have h1 := h (j / 6) (by simpa using hd) (j % 6) (by omega)
  rw [show 0 + j / 6 * 6 + j % 6 = 0 + j by omega] at h1
  rw [h1, get_flatK _ _ _ _ hj, ent_get _ _ _ (by omega)]
  have e : d[j / 6]! = d[j / 6] := getElem!_pos d (j / 6) hd
  rw [e]
  simp only [id, List.getElem_map, Array.getElem_toList, encV]

theorem unholdsV (pz : Addr) (w : World) (g : Nat) (d d' : Array VRg) (n : Nat) (os : Array Obj) (hs : d'.size = d.size) (hgl : g < w.heap.size) (h : letI := inhV; HoldsK (encV pz) 6 w g 0 d) :
    letI := inhV; EntAt pz (sortWorldK (encV pz) 6 w g 0 n d' os) g 0 (d'.toList.map (·.1)) := by
  letI := inhV
  intro i hi j hj
  have hi' : i < d'.size := by simpa using hi
  unfold sortWorldK
  rw [cell?_grow _ _ _ (by simp [putRowK]; exact hgl)]
  have h2 := cell?_putRow id (Sort.ahead w n) g 0 (flatK (encV pz) 6 d) (flatK (encV pz) 6 d') (holds_ahead id w n g 0 _ h) (by simp [hs]) (i * 6 + j) (by simp; omega)
  rw [show 0 + (i * 6 + j) = 0 + i * 6 + j by omega] at h2
  unfold putRowK
  rw [h2, get_flatK _ _ _ _ (by omega), ent_get _ _ _ hj]
  have e1 : (i * 6 + j) / 6 = i := by omega
  have e2 : (i * 6 + j) % 6 = j := by omega
  have e3 : d'[i]! = d'[i] := getElem!_pos d' i hi'
  rw [e1, e2, e3]
  simp only [id, List.getElem_map, Array.getElem_toList, encV]

theorem freeV (pz : Addr) (w : World) (g : Nat) (d' : Array VRg) (n : Nat) (os : Array Obj) (hgl : g < w.heap.size) (hf : Free w g) : letI := inhV; Free (sortWorldK (encV pz) 6 w g 0 n d' os) g := by
  letI := inhV
  intro o
  unfold sortWorldK putRowK
  rw [frozen?_grow _ _ _ (by simp; exact hgl), frozen?_putRow]
  exact hf o

theorem grownV (pz : Addr) (w : World) (g : Nat) (d' : Array VRg) (n : Nat) (os : Array Obj) : letI := inhV; w.grownBy (sortWorldK (encV pz) 6 w g 0 n d' os) (some g) := by
  letI := inhV
  refine ⟨rfl, rfl, rfl, by simp [sortWorldK, putRowK], fun k hk hne => ?_⟩
  unfold sortWorldK
  rw [heap_grow_old _ _ (by simp [putRowK]; exact hk)]
  unfold putRowK putRow mapBlock
  simp only [Array.getElem?_modify]
  rw [if_neg (fun e => hne (by rw [e]))]
  rfl

/-- slices.SortFunc over entries. -/
theorem sortE (pz : Addr) (g cap : Nat) (lv : List VRg) (n : Nat) (hn : lv.length = n) (hn2 : n ≤ 1048576) (w : World) (hz : Zs pz w) (hg : 1 < g) (hgl : g < w.heap.size) (h : EntAt pz w g 0 (lv.map (·.1))) (hf : Free w g) :
    Calls Tryd.prog 36 #[.slice (some ⟨g, 0, none⟩) n cap, .func (.func 32) #[] #[]] w fun e w' => e = .returned (.tuple #[]) ∧ ∃ lv' : List VRg, lv'.Perm lv ∧ lv'.Pairwise (fun x y => x.1.key ≤ y.1.key) ∧ EntAt pz w' g 0 (lv'.map (·.1)) ∧ Free w' g ∧ w.grownBy w' (some g) := by
  letI := inhV
  have hH := holdsV pz w g lv.toArray (by simpa using h) hf
  have hcon := AnyQ.slices_SortFunc_total Tryd.sortL 6 Tryd.isAgg49 Tryd.sizeOf49 (encV pz) (fun _ => rfl) (fun x v hv => by
    simp only [encV, Rg.ent, List.mem_cons, List.not_mem_nil, or_false] at hv
    rcases hv with rfl | rfl | rfl | rfl | rfl | rfl <;> rfl) cfV swoV 32 #[] g 0 cap lv.toArray w (enters_of Tryd.func32 (by kernel_rfl) rfl) (cmpLaysV pz w hz g _ hg) hH hgl (by simp; omega) (fun x y h1 h2 => by
      rw [ltV] at h1 h2
      simp at h1 h2
      exact Subtype.ext (key_inj x.2 y.2 (by omega)))
  have e : lv.toArray.size = n := by simpa using hn
  rw [e] at hcon
  change Calls Tryd.prog 36 _ _ _ at hcon
  refine hcon.mono fun e w' ⟨he, m, os, hw⟩ => ⟨he, lv.mergeSort (fun x y => !(ltOf cfV) y x), List.mergeSort_perm _ _, ?_, ?_, ?_, ?_⟩
  · have := List.pairwise_mergeSort (le := fun x y : VRg => !(ltOf cfV) y x) (fun a b c h1 h2 => by rw [ltV] at *; simp at *; omega) (fun a b => by rw [ltV, ltV]; simp; omega) lv
    rw [List.pairwise_iff_getElem] at this ⊢
    intro i j hi hj hij
    have h := this i j hi hj hij
    rw [ltV] at h
    simpa using h
  · rw [hw]
    have := unholdsV pz w g lv.toArray (lv.mergeSort (fun x y => !(ltOf cfV) y x)).toArray m os (by simp) hgl hH
    simpa using this
  · rw [hw]; exact freeV pz w g _ m os hgl hf
  · rw [hw]; exact grownV pz w g _ m os

end Go.Proofs.Qxb6609544aDoor
