import Derived.Test.Qxb6609485aKey
import Derived.Lib.BufferWrite
namespace Go.Proofs.Qxb6609485a
open Go.RowKit

/-- 'copy(dst, s)', s a string of whatever length, dst the row 'g' from its head on: as many bytes as dst has room for go over. -/
theorem run_copy_min {P : Program} (w : World) (dT sT ty elem : TypeId) (g dLen dCap : Nat) (s : ByteArray) (cur : Array Value) (t : TypeId)
    (hu : P.underlying dT = some (.slice elem)) (hs : (P.info? elem).map (·.size) = some 1) (hg : w.heap[g]? = some (.cells cur t (0, 0))) (hfit : dLen ≤ cur.size) :
    (Builtin.copy_ #[dT, sT] ty #[.slice (some ⟨g, 0, none⟩) dLen dCap, .string s]).run P w =
      .ok (goInt (Nat.min s.size dLen)) (w.setRow g (Lib.byteCells (s.data.toList.take dLen) ++ cur.toList.drop (Nat.min s.size dLen)).toArray) := by
  have hlen : (Lib.byteCells (s.data.toList.take dLen)).length = Nat.min s.size dLen := by
    rw [Lib.byteCells_length, List.length_take, ← Lib.size_eq, Nat.min_comm]
  have hle : Nat.min s.size dLen ≤ dLen := Nat.min_le_right _ _
  have hst := run_storeCells_at P g 0 t (Lib.byteCells (s.data.toList.take dLen)) 0 cur w hg (by rw [hlen]; omega) (Lib.byteCells_one _)
  have htk : List.take (Nat.min s.size dLen) (List.map (fun b : UInt8 => Value.int IntKind.u8 (b.toNat : Int)) s.data.toList) = Lib.byteCells (s.data.toList.take dLen) := by
    unfold Lib.byteCells
    rw [List.map_take]
    by_cases h : s.size ≤ dLen
    · have hm : Nat.min s.size dLen = s.size := Nat.min_eq_left h
      rw [hm, List.take_of_length_le (by rw [List.length_map, ← Lib.size_eq]; exact Nat.le_refl _), List.take_of_length_le (by rw [List.length_map, ← Lib.size_eq]; exact h)]
    · have hm : Nat.min s.size dLen = dLen := Nat.min_eq_right (by omega)
      rw [hm]
  rw [hlen] at hst
  simp only [Nat.add_zero, Nat.zero_add] at hst
  cases hq : P.info? elem with
  | none => simp [hq] at hs
  | some i =>
    simp [Builtin.copy_, run_underlying hu, Builtin.lenOf, Builtin.firstCells, sizeOf, typeInfo, hq]
    rw [htk, hst]
    simp [Result.andThen]

theorem pad_cells (s : List UInt8) : Lib.byteCells (s.take 8) ++ (List.replicate 8 (Value.int .u8 0)).drop (Nat.min s.length 8) = Lib.byteCells (padk 8 s) := by
  rw [padk_eq, Lib.byteCells_append, List.drop_replicate]
  have : 8 - Nat.min s.length 8 = 8 - s.length := by
    by_cases h : s.length ≤ 8
    · have hm : Nat.min s.length 8 = s.length := Nat.min_eq_left h
      rw [hm]
    · have hm : Nat.min s.length 8 = 8 := Nat.min_eq_right (by omega)
      rw [hm]; omega
  rw [this]
  congr 1
  simp [Lib.byteCells]

theorem setRow_alloc (w : World) (cur cs : Array Value) (t : TypeId) (g : Nat) (hg : g = w.heap.size) : (w.alloc (.cells cur t)).setRow g cs = w.alloc (.cells cs t) := by
  subst hg
  unfold World.setRow World.alloc
  simp only [World.mk.injEq, and_self, and_true]
  apply Array.ext (by simp)
  intro i h1 h2
  simp only [Array.getElem_modify, Array.getElem_push]
  by_cases h : i < w.heap.size
  · rw [if_neg (by omega), dif_pos h, dif_pos h]
  · have hi : w.heap.size = i := by simp at h2; omega
    subst hi
    simp

def c8 (p0 p1 p2 p3 p4 p5 p6 p7 : UInt8) : Array Value := #[.int .u8 p0.toNat, .int .u8 p1.toNat, .int .u8 p2.toNat, .int .u8 p3.toNat, .int .u8 p4.toNat, .int .u8 p5.toNat, .int .u8 p6.toNat, .int .u8 p7.toNat]

theorem copyKey (s : ByteArray) (W : World) (g : Nat) (hg : g = W.heap.size) (p0 p1 p2 p3 p4 p5 p6 p7 : UInt8) (hp : padk 8 s.data.toList = [p0, p1, p2, p3, p4, p5, p6, p7]) :
    (Builtin.copy_ #[26, 9] 3 #[.slice (some ⟨g, 0, none⟩) 8 8, .string s]).run Try.prog (W.alloc (.cells #[.int .u8 0, .int .u8 0, .int .u8 0, .int .u8 0, .int .u8 0, .int .u8 0, .int .u8 0, .int .u8 0] 65)) =
      .ok (goInt (Nat.min s.size 8)) (W.alloc (.cells (c8 p0 p1 p2 p3 p4 p5 p6 p7) 65)) := by
  have h := run_copy_min (P := Try.prog) (W.alloc (.cells #[.int .u8 0, .int .u8 0, .int .u8 0, .int .u8 0, .int .u8 0, .int .u8 0, .int .u8 0, .int .u8 0] 65)) 26 9 3 5 g 8 8 s _ 65 Try.underlying26 (by kernel_rfl) (by subst hg; exact heap_alloc_new W _) (by decide)
  rw [h, setRow_alloc _ _ _ _ _ hg]
  have e := pad_cells s.data.toList
  rw [← Lib.size_eq, hp] at e
  have e2 : Lib.byteCells (List.take 8 s.data.toList) ++ List.drop (Nat.min s.size 8) #[Value.int .u8 0, .int .u8 0, .int .u8 0, .int .u8 0, .int .u8 0, .int .u8 0, .int .u8 0, .int .u8 0].toList = Lib.byteCells [p0, p1, p2, p3, p4, p5, p6, p7] := e
  rw [e2]
  rfl

theorem pad_form (l : List UInt8) : ∃ p0 p1 p2 p3 p4 p5 p6 p7, padk 8 l = [p0, p1, p2, p3, p4, p5, p6, p7] := by
  have h := padk_length 8 l
  match hl : padk 8 l with
  | [p0, p1, p2, p3, p4, p5, p6, p7] => exact ⟨p0, p1, p2, p3, p4, p5, p6, p7, rfl⟩
  | [] | [_] | [_, _] | [_, _, _] | [_, _, _, _] | [_, _, _, _, _] | [_, _, _, _, _, _] | [_, _, _, _, _, _, _] => rw [hl] at h; simp at h
  | _ :: _ :: _ :: _ :: _ :: _ :: _ :: _ :: _ :: _ => rw [hl] at h; simp at h

set_option maxHeartbeats 2000000 in
theorem keyOf (s : ByteArray) (w : World) :
    Calls Try.prog 22 #[.string s] w fun e w' => e = .returned (.agg #[.int .u64 (natk 8 s.data.toList : Nat), .string s]) ∧ Below w.heap.size w w' := by
  obtain ⟨p0, p1, p2, p3, p4, p5, p6, p7, hp⟩ := pad_form s.data.toList
  have hn := natk_pad 8 s.data.toList
  rw [hp] at hn
  have hcp := copyKey s (w.alloc (.cells #[.int .u64 0, .string ⟨#[]⟩] 40)) (w.heap.size + 1) (by simp) p0 p1 p2 p3 p4 p5 p6 p7 hp
  have HN : Hid (Lib.beNat [p0, p1, p2, p3, p4, p5, p6, p7] = natk 8 s.data.toList) := hn
  have hbe := fun (W : World) (h : ∀ j, W.cell? ⟨w.heap.size + 1, j, none⟩ = (c8 p0 p1 p2 p3 p4 p5 p6 p7)[j]?) => beU64 (w.heap.size + 1) 0 8 8 p0 p1 p2 p3 p4 p5 p6 p7 W (by decide) (by rw [h]; rfl) (by rw [h]; rfl) (by rw [h]; rfl) (by rw [h]; rfl) (by rw [h]; rfl) (by rw [h]; rfl) (by rw [h]; rfl) (by rw [h]; rfl)
  have HBE : Hid _ := hbe
  clear hn hp hbe
  go_enter Try.func22, Try.ntmps22
  go_wp2
  have hcl : ∀ j, ((w.alloc (.cells #[.int .u64 0, .string ⟨#[]⟩] 40)).alloc (.cells (c8 p0 p1 p2 p3 p4 p5 p6 p7) 65)).cell? ⟨w.heap.size + 1, j, none⟩ = (c8 p0 p1 p2 p3 p4 p5 p6 p7)[j]? := fun j => World.cell?_alloc_at _ _ _ _ (by simp)
  go_region_held3 (fun _ => True) (trivial)
    (first | (go_at_call 25; refine (HBE.out _ ?_).mono ?_; exact hcl; rintro e w1 ⟨rfl, b1⟩; have k0 : w1.cell? ⟨w.heap.size, 0, none⟩ = some (.int .u64 0) := (b1.cell (p := ⟨w.heap.size, 0, none⟩) (by simp; omega)).trans (by simp); have k1 : w1.cell? ⟨w.heap.size, 1, none⟩ = some (.string ⟨#[]⟩) := (b1.cell (p := ⟨w.heap.size, 1, none⟩) (by simp; omega)).trans (by simp); have f0 : w1.frozen? ⟨w.heap.size, 0, none⟩ = false := (b1.frozen (p := ⟨w.heap.size, 0, none⟩) (by simp; omega)).trans (by simp); have f1 : w1.frozen? ⟨w.heap.size, 1, none⟩ = false := (b1.frozen (p := ⟨w.heap.size, 1, none⟩) (by simp; omega)).trans (by simp)))
  go_wp2
  refine bodyPost_ret (v := .agg #[.int .u64 (Lib.beNat [p0, p1, p2, p3, p4, p5, p6, p7] : Nat), .string s]) (by simp [results, Try.results22, go_sem, k0, k1]) rfl ⟨by rw [HN.out], ?_⟩
  have b0 := ((Below.refl w.heap.size w).alloc (Nat.le_refl _) (.cells #[.int .u64 0, .string ⟨#[]⟩] 40)).alloc (by simp) (.cells (c8 p0 p1 p2 p3 p4 p5 p6 p7) 65)
  exact (((b0.drew).trans (b1.mono (by simp; omega))).setCell (Nat.le_refl _) _).setCell (Nat.le_refl _) _

set_option maxHeartbeats 1000000 in
theorem idCompare (a b : ByteArray) (x y : Nat) (w : World) :
    Calls Try.prog 26 #[.agg #[.int .u64 x, .string a], .agg #[.int .u64 y, .string b]] w fun e w' => e = .returned (.int .i64 (if x = y then Lib.compareBytes a.data.toList b.data.toList else if x < y then -1 else 1)) ∧ Below w.heap.size w w' := by
  by_cases h : x = y
  · rw [if_pos h]
    have hne : ((x : Int) != (y : Int)) = false := by simp [h]
    clear h
    go_enter Try.func26, Try.ntmps26
    go_wp2_with fail
    refine (stringsCompare a b _).mono ?_
    rintro e w1 ⟨rfl, rfl⟩
    go_wp2_with fail
    go_ret
    exact ⟨rfl, ((Below.refl _ _).alloc (Nat.le_refl _) _).alloc (by simp) _⟩
  · rw [if_neg h]
    have hne : ((x : Int) != (y : Int)) = true := by simp; omega
    have he : (if x < y then (-1 : Int) else 1) = if x < y then -1 else if y < x then 1 else 0 := by
      by_cases h1 : x < y
      · rw [if_pos h1, if_pos h1]
      · rw [if_neg h1, if_neg h1, if_pos (by omega)]
    rw [he]
    clear h he
    have HC := cmpCompare x y
    generalize (if x < y then (-1 : Int) else if y < x then 1 else 0) = r at HC ⊢
    have HC' : Hid (∀ w, _) := HC
    clear HC
    go_enter Try.func26, Try.ntmps26
    go_wp2_with fail
    refine (HC'.out _).mono ?_
    rintro e w1 ⟨rfl, rfl⟩
    go_wp2_with fail
    go_ret
    exact ⟨rfl, ((Below.refl _ _).alloc (Nat.le_refl _) _).alloc (by simp) _⟩

set_option maxHeartbeats 1000000 in
theorem docCompare (a b : ByteArray) (x y : Nat) (w : World) :
    Calls Try.prog 23 #[.agg #[.int .u64 x, .string a, .slice none 0 0, .slice none 0 0, .int .i64 0, .int .u64 0], .agg #[.int .u64 y, .string b]] w fun e w' => e = .returned (.int .i64 (if x = y then Lib.compareBytes a.data.toList b.data.toList else if x < y then -1 else 1)) ∧ Below w.heap.size w w' := by
  have HC := idCompare a b x y
  generalize (if x = y then Lib.compareBytes a.data.toList b.data.toList else if x < y then -1 else 1) = r at HC ⊢
  have HC' : Hid (∀ w, _) := HC
  clear HC
  go_enter Try.func23, Try.ntmps23
  go_wp2_with fail
  refine (HC'.out _).mono ?_
  rintro e w1 ⟨rfl, b1⟩
  go_wp2_with fail
  go_ret
  exact ⟨rfl, (((Below.refl w.heap.size w).alloc (Nat.le_refl _) _).alloc (by simp) _).trans (b1.mono (by simp; omega))⟩

set_option maxHeartbeats 1000000 in
theorem zzCompare (a b : ByteArray) (w : World) :
    Calls Try.prog 7 #[.string a, .string b] w fun e w' => e = .returned (.int .i64 (Lib.compareBytes a.data.toList b.data.toList)) ∧ Below w.heap.size w w' := by
  have hk := cmpKey_eq a.data.toList b.data.toList
  unfold cmpKey at hk
  rw [← hk]
  clear hk
  have HC := docCompare a b (natk 8 a.data.toList) (natk 8 b.data.toList)
  generalize (if natk 8 a.data.toList = natk 8 b.data.toList then Lib.compareBytes a.data.toList b.data.toList else if natk 8 a.data.toList < natk 8 b.data.toList then -1 else 1) = r at HC ⊢
  have HC' : Hid (∀ w, _) := HC
  clear HC
  go_enter Try.func7, Try.ntmps7
  go_wp2_with fail
  refine (keyOf a _).mono ?_
  rintro e w1 ⟨rfl, b1⟩
  go_wp2_with fail
  refine (keyOf b _).mono ?_
  rintro e w2 ⟨rfl, b2⟩
  go_wp2_with fail
  refine (HC'.out _).mono ?_
  rintro e w3 ⟨rfl, b3⟩
  go_wp2_with fail
  go_ret
  exact ⟨rfl, b1.trans ((b2.mono b1.size).trans (b3.mono (Nat.le_trans b1.size b2.size)))⟩
end Go.Proofs.Qxb6609485a
