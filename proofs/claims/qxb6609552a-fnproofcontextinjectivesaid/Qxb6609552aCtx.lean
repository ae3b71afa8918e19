import Derived.Test.Qxb6609552aProg
import Derived.Lib.Walk
import Derived.Lib.VarintMem
import Derived.Deep.RegionWith
import Derived.Deep.AppendLies
import Derived.ArgAppend
import Derived.Stop.LaidErr
import Derived.Deep.Onto
import Derived.Deep.QuietTactic
import Derived.BigQuiet
import Derived.Stop.BytesEq
import Derived.OwnWalk
import Derived.WalkKit
namespace Go.Proofs.Qxb6609552a
open Go.RowKit

theorem hide {p : Prop} (h : p) : Hid p := h
theorem info5 : ∃ i, Try.prog.info? 5 = some i ∧ i.zero = some (.int .u8 0) ∧ i.size = 1 ∧ i.bytes = 1 := info_parts (by kernel_rfl)

set_option maxHeartbeats 2000000 in
theorem appU16 (g v : Nat) (hv : v < 65536) (X : Array Value) (hX : X.size = 32) (w : World) (hg : w.heap[g]? = some (.cells X 22 (0, 0))) :
    Calls Try.prog 28 #[.agg #[], .slice (some ⟨g, 0, none⟩) 32 32, .int .u16 v] w fun e w' => ∃ v', e = .returned v' ∧ w'.ownsRow w.heap.size 5 1 v' 34 (X.toList ++ [.int .u8 ((v / 256 : Nat) : Int), .int .u8 ((v % 256 : Nat) : Int)]) ∧ Below w.heap.size w w' := by
  obtain ⟨i0, hi, hz0, hz1, hz2⟩ := info5
  have e0 : ((v % 256 : Nat) : Int) = (v : Int) % 256 := by omega
  have e1 : ((v / 256 : Nat) : Int) = (v : Int) / 256 := by omega
  rw [e0, e1]
  have holds : ∀ j u, X.toList[j]? = some u → w.cell? ⟨g, 0 + j, none⟩ = some u := fun j u hu => by
    rw [Nat.zero_add, cell_of_row w g j X 22 (0, 0) hg]; simpa using hu
  have hl : X.toList.length = 32 := by simpa using hX
  have H := hide holds
  have HX := hide hl
  clear e0 e1 hX hg holds hl
  go_enter Try.func28, Try.ntmps28
  go_wp2_with (at_builtin; refine wpList_append_arg _ rfl _ _ 23 rfl 5 i0 (.int .u8 0) 1 1 Try.underlying23 hi hz0 hz1 hz2 rfl (by decide) g 0 32 32 X.toList rfl HX.out ?c0 _ 2 2 [Value.int .u8 ((v : Int) / 256), Value.int .u8 ((v : Int) % 256)] rfl rfl ?c1 ?c2 ?c3 ?c4 ?c5 ?room ?grow)
  case c0 => intro j u hj; exact cell?_alloc_old _ (cell?_alloc_old _ (H.out j u hj))
  case c1 =>
    intro j u hj
    match j, hj with
    | 0, hj => simp at hj; subst hj; simp [Addr.add]
    | 1, hj => simp at hj; subst hj; simp [Addr.add]
  case c2 => intro u hu; simp at hu; rcases hu with rfl | rfl <;> rfl
  case c3 => intro hr; omega
  case c4 => unfold maxLen; omega
  case c5 => omega
  case grow =>
    intro v' w2 hown' hgrow
    go_wp2
    go_ret
    refine ⟨v', rfl, hown'.mono (by first | omega | (simp; omega)), ?_⟩
    exact ((((Below.refl _ w).alloc (Nat.le_refl _) _).alloc (by simp) _).grown hgrow (by simp; omega) (fun k hk => by cases hk))

theorem u16 (j : Int) : ∃ v : Nat, IntKind.u16.wrap j = v ∧ v < 65536 ∧ (v : Int) = j % 65536 := by
  have : IntKind.u16.wrap j = j % 65536 := by simp [IntKind.wrap, IntKind.bits, IntKind.signed]
  exact ⟨(j % 65536).toNat, by rw [this]; omega, by omega, by omega⟩

set_option maxHeartbeats 2000000 in
theorem ctx (j : Int) (v : Nat) (hj : IntKind.u16.wrap j = v) (hv : v < 65536) (X : Array Value) (hX : X.size = 32) (w : World) :
    Calls Try.prog 19 #[.agg X, .int .i64 j] w fun e w' => ∃ v', e = .returned v' ∧ w'.ownsRow w.heap.size 5 1 v' 34 (X.toList ++ [.int .u8 ((v / 256 : Nat) : Int), .int .u8 ((v % 256 : Nat) : Int)]) ∧ Below w.heap.size w w' := by
  have c1 := fun W hW => appU16 w.heap.size v hv X hX W hW
  have C1 := hide c1
  clear c1
  go_enter Try.func19, Try.ntmps19
  go_wp2
  go_region_with (go_at_call 28; refine (C1.out _ ?_).mono ?_; exact heap_alloc_new w _; rintro e w1 ⟨v', rfl, h1, b1⟩)
  all_goals
    go_wp2
    go_ret
    refine ⟨v', rfl, h1.mono (by simp), ((Below.refl _ w).alloc (Nat.le_refl _) _).drew.trans (b1.mono (by simp))⟩

theorem size22 : (Try.prog.info? 22).map (·.size) = some 32 := by kernel_rfl

set_option maxHeartbeats 2000000 in
theorem zzCtx (j : Int) (v : Nat) (hj : IntKind.u16.wrap j = v) (hv : v < 65536) (X : Array Value) (hX : X.size = 32) (w : World) :
    Calls Try.prog 7 #[.agg X, .int .i64 j] w fun e w' => ∃ v', e = .returned v' ∧ w'.ownsRow w.heap.size 5 1 v' 34 (X.toList ++ [.int .u8 ((v / 256 : Nat) : Int), .int .u8 ((v % 256 : Nat) : Int)]) ∧ Below w.heap.size w w' := by
  have C1 := hide (fun W => ctx j v hj hv X hX W)
  have hs := hide size22
  go_enter Try.func7, Try.ntmps7
  go_wp2_with (first
    | (refine wpList_load_row rfl 22 _ rfl w.heap.size rfl 22 X (0, 0) _ (heap_alloc_new w _) Try.underlying22 rfl (by rw [hX]; exact hs.out) ?_)
    | (go_at_call 19; refine (C1.out _).mono ?_; rintro e w1 ⟨v', rfl, h1, b1⟩))
  go_ret
  exact ⟨v', rfl, h1.mono (by simp), ((Below.refl _ w).alloc (Nat.le_refl _) _).trans (b1.mono (by simp))⟩

set_option maxHeartbeats 4000000 in
theorem bytesEq (g h cg ch : Nat) (xs ys : List Int) (hx : xs.length = 34) (hy : ys.length = 34) (w : World) (cx : ∀ j, j < 34 → w.cell? ⟨g, j, none⟩ = some (.int .u8 (xs.getD j 0))) (cy : ∀ j, j < 34 → w.cell? ⟨h, j, none⟩ = some (.int .u8 (ys.getD j 0))) :
    Calls Try.prog 8 #[.slice (some ⟨g, 0, none⟩) 34 cg, .slice (some ⟨h, 0, none⟩) 34 ch] w fun e w' => e = .returned (.bool (decide (xs = ys))) ∧ Below w.heap.size w w' := by
  obtain ⟨r, hr⟩ : ∃ r, decide (xs = ys) = r := ⟨_, rfl⟩
  rw [hr]
  have HR := hide hr
  have CX := hide cx
  have CY := hide cy
  clear hr cx cy
  go_enter Try.func8, Try.ntmps8
  go_wp2
  go_loopw [5] (fun vi wr => ∃ k : Nat, k ≤ 34 ∧ vi = .int .i64 k ∧ Hid (∀ j, j < k → xs.getD j 0 = ys.getD j 0) ∧ ∃ q, wr = w.drewN q) (fun vi _ => 34 - (intOf vi).toNat)
  case atStart => exact ⟨0, by omega, rfl, fun j hj => by omega, 0, rfl⟩
  case round =>
    obtain ⟨k, hk, rfl, hq, q, rfl⟩ := hrel
    have hB : ∀ q, Below w.heap.size w (w.drewN q) := fun q => ⟨rfl, rfl, rfl, Nat.le_refl _, fun _ _ => rfl⟩
    by_cases hlt : k < 34
    · have c1 := CX.out k hlt
      have c2 := CY.out k hlt
      obtain ⟨a, ea⟩ : ∃ a, xs.getD k 0 = a := ⟨_, rfl⟩
      obtain ⟨b, eb⟩ : ∃ b, ys.getD k 0 = b := ⟨_, rfl⟩
      rw [ea] at c1
      rw [eb] at c2
      have EA := hide ea
      have EB := hide eb
      clear ea eb
      by_cases hab : a = b
      · have hne : (a != b) = false := by simp [hab]
        have HAB := hide hab
        clear hab
        go_wp2
        go_quiet (fail)
        go_wp2
        go_roundw
        case rel => exact ⟨k + 1, by omega, by go_num, fun j hj => by
          by_cases hjk : j < k
          · exact hq.out j hjk
          · have : j = k := by omega
            subst this
            exact EA.out.trans (HAB.out.trans EB.out.symm), _, rfl⟩
        case measure => simp [intOf]; omega
      · have hne : (a != b) = true := by simpa using hab
        have HAB := hide hab
        clear hab
        go_wp2
        go_quiet (fail)
        go_wp2
        go_ret
        refine ⟨?_, ⟨rfl, rfl, rfl, Nat.le_refl _, fun _ _ => rfl⟩⟩
        rw [← HR.out]
        have : xs ≠ ys := fun e => HAB.out (by rw [← EA.out, ← EB.out, e])
        simp [this]
    · go_wp2
      go_ret
      refine ⟨?_, hB _⟩
      rw [← HR.out]
      have : xs = ys := by
        apply List.ext_getElem (by omega)
        intro i h1 h2
        have := hq.out i (by omega)
        simpa [List.getD, h1, h2] using this
      simp [this]
end Go.Proofs.Qxb6609552a
