import Derived.Test.Qxb6609264aProg
import Derived.Test.Qxb6609264aPlain
import Derived.Lib.Walk
import Derived.Lib.VarintBits
import Derived.Lib.VarintMem
import Derived.Laws.Closers25b
import Derived.WalkKit
namespace Go.Proofs.Qxb6609264a
open Go.RowKit

theorem hide {p : Prop} (h : p) : Hid p := h
theorem ret_int {k : IntKind} {a b : Int} (h : a = b) : Ending.returned (.int k a) = .returned (.int k b) := by rw [h]

set_option maxHeartbeats 1000000 in
theorem uvarintLen (x : Nat) (hx : x < 18446744073709551616) (w : World) :
    Calls Try.prog 5 #[.int .u64 x] w fun e w' => e = .returned (.int .i64 (ulen x : Nat)) ∧ w' = w := by
  have hb64 := blen_64 hx
  go_enter Try.func5, Try.ntmps5
  go_wp2
  go_loop [3, 4] (fun vb vy => ∃ b y : Nat, vb = .int .i64 b ∧ vy = .int .u64 y ∧ Hid (b + blen y = blen x) ∧ y < 18446744073709551616)
    (fun _ vy => (intOf vy).toNat)
  case atStart => exact ⟨0, x, rfl, rfl, Nat.zero_add _, hx⟩
  case round =>
    obtain ⟨b, y, rfl, rfl, hb, hy⟩ := hrel
    have hbb : b ≤ 64 := by have := hb.out; omega
    by_cases h0 : y = 0
    · subst h0
      have hbe : b = blen x := by have := hb.out; rw [blen_zero] at this; omega
      by_cases hb0 : b = 0
      · subst hb0
        have hu : ulen x = 1 := by
          unfold ulen
          by_cases hx0 : x = 0
          · rw [if_pos hx0]
          · have := blen_pos x hx0; omega
        have HU : Hid (ulen x = 1) := hu
        clear hbe hu
        go_wp2
        go_ret
        exact ⟨ret_int (by rw [HU.out]; rfl), rfl⟩
      · have hb1 : ((b : Int) == 0) = false := by simpa using hb0
        have hu : ulen x = (b + 6) / 7 := by
          unfold ulen
          by_cases hx0 : x = 0
          · subst hx0; rw [blen_zero] at hbe; omega
          · rw [if_neg hx0, hbe]
        have HU : Hid (ulen x = (b + 6) / 7) := hu
        clear hbe hu
        go_wp2
        go_ret
        exact ⟨ret_int (by rw [HU.out]; omega), rfl⟩
    · have hy1 : ((y : Int) != 0) = true := by simpa using h0
      have hh := blen_half y h0
      have H2 : Hid (b + 1 + blen (y / 2) = blen x) := by have := hb.out; show _ = _; omega
      clear hh hb
      go_wp2
      go_round
      case rel => exact ⟨b + 1, y / 2, by go_num, by go_num, H2, by omega⟩
      case measure => simp [intOf]; omega

set_option maxHeartbeats 1000000 in
theorem expectByte (g n cap i c : Nat) (w : World) (hi : i < n) (hn : n ≤ maxLen) (hc : w.cell? ⟨g, i, none⟩ = some (.int .u8 c)) :
    Calls Try.prog 6 #[.slice (some ⟨g, 0, none⟩) n cap, .int .i64 i, .int .u8 c] w fun e w' => e = .returned (.tuple #[.int .i64 ((i + 1 : Nat) : Int), .bool true]) ∧ w' = w := by
  unfold maxLen at hn
  go_enter Try.func6, Try.ntmps6
  go_wp2
  go_ret2
  exact ⟨by go_num, rfl⟩

set_option maxHeartbeats 32000000 in
set_option maxRecDepth 100000 in
theorem getUvarint (g n cap i X : Nat) (hX : X < 18446744073709551616) (w : World) (hin : i + (Lib.uvarint X).length ≤ n) (hn : n ≤ maxLen)
    (hcell : ∀ j (hj : j < (Lib.uvarint X).length), w.cell? ⟨g, i + j, none⟩ = some (.int .u8 ((Lib.uvarint X)[j]).toNat)) :
    Calls Try.prog 9 #[.slice (some ⟨g, 0, none⟩) n cap, .int .i64 i] w fun e w' => e = .returned (.tuple #[.int .u64 X, .int .i64 ((i + (Lib.uvarint X).length : Nat) : Int), .bool true]) ∧ w' = w := by
  unfold maxLen at hn
  have hE : ∃ E, Hid (i + (Lib.uvarint X).length = E) := ⟨_, rfl⟩
  obtain ⟨E, hE⟩ := hE
  have hE' : i + (Lib.uvarint X).length = E := hE
  rw [hE'] at hin ⊢
  clear hE'
  go_enter Try.func9, Try.ntmps9
  go_wp2
  go_loop [1, 7, 8, 9] (fun vi vx vs vk => ∃ k acc y p : Nat, vk = .int .i64 k ∧ vs = .int .u64 ((7 * k : Nat) : Int) ∧ vx = .int .u64 acc ∧ vi = .int .i64 p ∧ k ≤ 9 ∧ acc < 2 ^ (7 * k) ∧ Hid (acc + y * 2 ^ (7 * k) = X) ∧ Hid (p + (Lib.uvarint y).length = E) ∧ (∀ j (hj : j < (Lib.uvarint y).length), w.cell? ⟨g, p + j, none⟩ = some (.int .u8 ((Lib.uvarint y)[j]).toNat)))
    (fun _ _ _ vk => 10 - (intOf vk).toNat)
  case atStart => exact ⟨0, 0, X, i, rfl, rfl, rfl, rfl, by omega, by decide, by show 0 + X * 1 = X; omega, hE, hcell⟩
  case round =>
    clear hcell hE
    obtain ⟨k, acc, y, p, rfl, rfl, rfl, rfl, hk9, hacc, hXe, hpe, hcy⟩ := hrel
    have hup := Lib.uvarint_pos y
    have hp : p < n := by have := hpe.out; omega
    obtain ⟨c, hc, hc256, hcs, hcb⟩ : ∃ c : Nat, w.cell? ⟨g, p, none⟩ = some (.int .u8 c) ∧ c < 256 ∧ Hid (y < 128 → c = y) ∧ Hid (128 ≤ y → c = y % 128 + 128) := by
      refine ⟨_, by simpa using hcy 0 (by omega), by have := ((Lib.uvarint y)[0]).toNat_lt; omega, ?_, ?_⟩
      · intro h
        simp only [Lib.uvarint_small h, List.getElem_cons_zero]
        exact Lib.toUInt8_toNat (by omega)
      · intro h
        simp only [Lib.uvarint_big h, List.getElem_cons_zero]
        exact Lib.toUInt8_toNat (by omega)
    have hnext : 128 ≤ y → Hid (p + 1 + (Lib.uvarint (y / 128)).length = E) ∧ (∀ j (hj : j < (Lib.uvarint (y / 128)).length), w.cell? ⟨g, p + 1 + j, none⟩ = some (.int .u8 ((Lib.uvarint (y / 128))[j]).toNat)) := by
      intro h
      have hl : (Lib.uvarint y).length = (Lib.uvarint (y / 128)).length + 1 := by rw [Lib.uvarint_big h, List.length_cons]
      refine ⟨by have := hpe.out; show _ = _; omega, fun j hj => ?_⟩
      have := hcy (j + 1) (by omega)
      simp only [Lib.uvarint_big h, List.getElem_cons_succ] at this
      rw [show p + 1 + j = p + (j + 1) by omega]
      exact this
    have hlast : y < 128 → p + 1 = E := by
      intro h
      have hl : (Lib.uvarint y).length = 1 := by rw [Lib.uvarint_small h]; rfl
      have := hpe.out; omega
    clear hcy hpe hup
    have HN := hide hnext
    have HL := hide hlast
    clear hnext hlast
    have hks : k = 0 ∨ k = 1 ∨ k = 2 ∨ k = 3 ∨ k = 4 ∨ k = 5 ∨ k = 6 ∨ k = 7 ∨ k = 8 ∨ k = 9 := by omega
    rcases hks with rfl | rfl | rfl | rfl | rfl | rfl | rfl | rfl | rfl | rfl
    · obtain rfl : acc = 0 := by simpa using hacc
      have hXe' : y = X := by have := hXe.out; omega
      clear hXe
      by_cases hy : y < 128
      · have hce : c = y := hcs.out hy
        have hcl : c < 128 := by omega
        have hv : bits .or .u64 0 (IntKind.u64.wrap (IntKind.u64.wrap (bits .and .u8 (c : Int) 127))) = (X : Int) := by
          simp (disch := omega) only [u8_and127, u64_wrap_id, u64_orv0]
          omega
        have HP := HL.out hy
        clear hce HN HL hcs hcb hXe'
        go_wp2
        go_ret3
        exact ⟨by rw [← HP]; go_num, rfl⟩
      · have hce : c = y % 128 + 128 := hcb.out (by omega)
        have hcl : 128 ≤ c := by omega
        have hv : bits .or .u64 0 (IntKind.u64.wrap (IntKind.u64.wrap (bits .and .u8 (c : Int) 127))) = ((c % 128 : Nat) : Int) := by
          simp (disch := omega) only [u8_and127, u64_wrap_id, u64_orv0]
          omega
        have hX2 : Hid (c % 128 + y / 128 * 2 ^ (7 * 1) = X) := by
          have e2 : (2 : Nat) ^ (7 * 1) = 128 := by decide
          show _ = _
          rw [e2]
          omega
        have hlt : c % 128 < 2 ^ (7 * 1) := by
          have e2 : (2 : Nat) ^ (7 * 1) = 128 := by decide
          rw [e2]
          omega
        have HLT := hide hlt
        obtain ⟨hN1, hN2⟩ := HN.out (by omega)
        have HN2 := hide hN2
        clear hlt hce HN HL hcs hcb hXe' hN2
        go_wp2
        refine ⟨⟨1, c % 128, y / 128, p + 1, by go_num, by go_num, (by first | rfl | (congr 1; omega)), by go_num, by omega, HLT.out, hX2, hN1, HN2.out⟩, by simp [intOf]⟩
    · have hacc' : acc < 128 := by simpa using hacc
      have hXe' : acc + y * 128 = X := by have := hXe.out; simpa using this
      clear hXe
      by_cases hy : y < 128
      · have hce : c = y := hcs.out hy
        have hcl : c < 128 := by omega
        have hv : bits .or .u64 (acc : Int) (IntKind.u64.wrap (IntKind.u64.wrap (bits .and .u8 (c : Int) 127) * 128)) = (X : Int) := by
          simp (disch := omega) only [u8_and127, u64_wrap_id, u64_orv7]
          omega
        have HP := HL.out hy
        clear hce HN HL hcs hcb hXe'
        go_wp2
        go_ret3
        exact ⟨by rw [← HP]; go_num, rfl⟩
      · have hce : c = y % 128 + 128 := hcb.out (by omega)
        have hcl : 128 ≤ c := by omega
        have hv : bits .or .u64 (acc : Int) (IntKind.u64.wrap (IntKind.u64.wrap (bits .and .u8 (c : Int) 127) * 128)) = ((acc + c % 128 * 128 : Nat) : Int) := by
          simp (disch := omega) only [u8_and127, u64_wrap_id, u64_orv7]
          omega
        have hX2 : Hid (acc + c % 128 * 128 + y / 128 * 2 ^ (7 * 2) = X) := by
          have e2 : (2 : Nat) ^ (7 * 2) = 16384 := by decide
          show _ = _
          rw [e2]
          omega
        have hlt : acc + c % 128 * 128 < 2 ^ (7 * 2) := by
          have e2 : (2 : Nat) ^ (7 * 2) = 16384 := by decide
          rw [e2]
          omega
        have HLT := hide hlt
        obtain ⟨hN1, hN2⟩ := HN.out (by omega)
        have HN2 := hide hN2
        clear hlt hce HN HL hcs hcb hXe' hN2
        go_wp2
        refine ⟨⟨2, acc + c % 128 * 128, y / 128, p + 1, by go_num, by go_num, (by first | rfl | (congr 1; omega)), by go_num, by omega, HLT.out, hX2, hN1, HN2.out⟩, by simp [intOf]⟩
    · have hacc' : acc < 16384 := by simpa using hacc
      have hXe' : acc + y * 16384 = X := by have := hXe.out; simpa using this
      clear hXe
      by_cases hy : y < 128
      · have hce : c = y := hcs.out hy
        have hcl : c < 128 := by omega
        have hv : bits .or .u64 (acc : Int) (IntKind.u64.wrap (IntKind.u64.wrap (bits .and .u8 (c : Int) 127) * 16384)) = (X : Int) := by
          simp (disch := omega) only [u8_and127, u64_wrap_id, u64_orv14]
          omega
        have HP := HL.out hy
        clear hce HN HL hcs hcb hXe'
        go_wp2
        go_ret3
        exact ⟨by rw [← HP]; go_num, rfl⟩
      · have hce : c = y % 128 + 128 := hcb.out (by omega)
        have hcl : 128 ≤ c := by omega
        have hv : bits .or .u64 (acc : Int) (IntKind.u64.wrap (IntKind.u64.wrap (bits .and .u8 (c : Int) 127) * 16384)) = ((acc + c % 128 * 16384 : Nat) : Int) := by
          simp (disch := omega) only [u8_and127, u64_wrap_id, u64_orv14]
          omega
        have hX2 : Hid (acc + c % 128 * 16384 + y / 128 * 2 ^ (7 * 3) = X) := by
          have e2 : (2 : Nat) ^ (7 * 3) = 2097152 := by decide
          show _ = _
          rw [e2]
          omega
        have hlt : acc + c % 128 * 16384 < 2 ^ (7 * 3) := by
          have e2 : (2 : Nat) ^ (7 * 3) = 2097152 := by decide
          rw [e2]
          omega
        have HLT := hide hlt
        obtain ⟨hN1, hN2⟩ := HN.out (by omega)
        have HN2 := hide hN2
        clear hlt hce HN HL hcs hcb hXe' hN2
        go_wp2
        refine ⟨⟨3, acc + c % 128 * 16384, y / 128, p + 1, by go_num, by go_num, (by first | rfl | (congr 1; omega)), by go_num, by omega, HLT.out, hX2, hN1, HN2.out⟩, by simp [intOf]⟩
    · have hacc' : acc < 2097152 := by simpa using hacc
      have hXe' : acc + y * 2097152 = X := by have := hXe.out; simpa using this
      clear hXe
      by_cases hy : y < 128
      · have hce : c = y := hcs.out hy
        have hcl : c < 128 := by omega
        have hv : bits .or .u64 (acc : Int) (IntKind.u64.wrap (IntKind.u64.wrap (bits .and .u8 (c : Int) 127) * 2097152)) = (X : Int) := by
          simp (disch := omega) only [u8_and127, u64_wrap_id, u64_orv21]
          omega
        have HP := HL.out hy
        clear hce HN HL hcs hcb hXe'
        go_wp2
        go_ret3
        exact ⟨by rw [← HP]; go_num, rfl⟩
      · have hce : c = y % 128 + 128 := hcb.out (by omega)
        have hcl : 128 ≤ c := by omega
        have hv : bits .or .u64 (acc : Int) (IntKind.u64.wrap (IntKind.u64.wrap (bits .and .u8 (c : Int) 127) * 2097152)) = ((acc + c % 128 * 2097152 : Nat) : Int) := by
          simp (disch := omega) only [u8_and127, u64_wrap_id, u64_orv21]
          omega
        have hX2 : Hid (acc + c % 128 * 2097152 + y / 128 * 2 ^ (7 * 4) = X) := by
          have e2 : (2 : Nat) ^ (7 * 4) = 268435456 := by decide
          show _ = _
          rw [e2]
          omega
        have hlt : acc + c % 128 * 2097152 < 2 ^ (7 * 4) := by
          have e2 : (2 : Nat) ^ (7 * 4) = 268435456 := by decide
          rw [e2]
          omega
        have HLT := hide hlt
        obtain ⟨hN1, hN2⟩ := HN.out (by omega)
        have HN2 := hide hN2
        clear hlt hce HN HL hcs hcb hXe' hN2
        go_wp2
        refine ⟨⟨4, acc + c % 128 * 2097152, y / 128, p + 1, by go_num, by go_num, (by first | rfl | (congr 1; omega)), by go_num, by omega, HLT.out, hX2, hN1, HN2.out⟩, by simp [intOf]⟩
    · have hacc' : acc < 268435456 := by simpa using hacc
      have hXe' : acc + y * 268435456 = X := by have := hXe.out; simpa using this
      clear hXe
      by_cases hy : y < 128
      · have hce : c = y := hcs.out hy
        have hcl : c < 128 := by omega
        have hv : bits .or .u64 (acc : Int) (IntKind.u64.wrap (IntKind.u64.wrap (bits .and .u8 (c : Int) 127) * 268435456)) = (X : Int) := by
          simp (disch := omega) only [u8_and127, u64_wrap_id, u64_orv28]
          omega
        have HP := HL.out hy
        clear hce HN HL hcs hcb hXe'
        go_wp2
        go_ret3
        exact ⟨by rw [← HP]; go_num, rfl⟩
      · have hce : c = y % 128 + 128 := hcb.out (by omega)
        have hcl : 128 ≤ c := by omega
        have hv : bits .or .u64 (acc : Int) (IntKind.u64.wrap (IntKind.u64.wrap (bits .and .u8 (c : Int) 127) * 268435456)) = ((acc + c % 128 * 268435456 : Nat) : Int) := by
          simp (disch := omega) only [u8_and127, u64_wrap_id, u64_orv28]
          omega
        have hX2 : Hid (acc + c % 128 * 268435456 + y / 128 * 2 ^ (7 * 5) = X) := by
          have e2 : (2 : Nat) ^ (7 * 5) = 34359738368 := by decide
          show _ = _
          rw [e2]
          omega
        have hlt : acc + c % 128 * 268435456 < 2 ^ (7 * 5) := by
          have e2 : (2 : Nat) ^ (7 * 5) = 34359738368 := by decide
          rw [e2]
          omega
        have HLT := hide hlt
        obtain ⟨hN1, hN2⟩ := HN.out (by omega)
        have HN2 := hide hN2
        clear hlt hce HN HL hcs hcb hXe' hN2
        go_wp2
        refine ⟨⟨5, acc + c % 128 * 268435456, y / 128, p + 1, by go_num, by go_num, (by first | rfl | (congr 1; omega)), by go_num, by omega, HLT.out, hX2, hN1, HN2.out⟩, by simp [intOf]⟩
    · have hacc' : acc < 34359738368 := by simpa using hacc
      have hXe' : acc + y * 34359738368 = X := by have := hXe.out; simpa using this
      clear hXe
      by_cases hy : y < 128
      · have hce : c = y := hcs.out hy
        have hcl : c < 128 := by omega
        have hv : bits .or .u64 (acc : Int) (IntKind.u64.wrap (IntKind.u64.wrap (bits .and .u8 (c : Int) 127) * 34359738368)) = (X : Int) := by
          simp (disch := omega) only [u8_and127, u64_wrap_id, u64_orv35]
          omega
        have HP := HL.out hy
        clear hce HN HL hcs hcb hXe'
        go_wp2
        go_ret3
        exact ⟨by rw [← HP]; go_num, rfl⟩
      · have hce : c = y % 128 + 128 := hcb.out (by omega)
        have hcl : 128 ≤ c := by omega
        have hv : bits .or .u64 (acc : Int) (IntKind.u64.wrap (IntKind.u64.wrap (bits .and .u8 (c : Int) 127) * 34359738368)) = ((acc + c % 128 * 34359738368 : Nat) : Int) := by
          simp (disch := omega) only [u8_and127, u64_wrap_id, u64_orv35]
          omega
        have hX2 : Hid (acc + c % 128 * 34359738368 + y / 128 * 2 ^ (7 * 6) = X) := by
          have e2 : (2 : Nat) ^ (7 * 6) = 4398046511104 := by decide
          show _ = _
          rw [e2]
          omega
        have hlt : acc + c % 128 * 34359738368 < 2 ^ (7 * 6) := by
          have e2 : (2 : Nat) ^ (7 * 6) = 4398046511104 := by decide
          rw [e2]
          omega
        have HLT := hide hlt
        obtain ⟨hN1, hN2⟩ := HN.out (by omega)
        have HN2 := hide hN2
        clear hlt hce HN HL hcs hcb hXe' hN2
        go_wp2
        refine ⟨⟨6, acc + c % 128 * 34359738368, y / 128, p + 1, by go_num, by go_num, (by first | rfl | (congr 1; omega)), by go_num, by omega, HLT.out, hX2, hN1, HN2.out⟩, by simp [intOf]⟩
    · have hacc' : acc < 4398046511104 := by simpa using hacc
      have hXe' : acc + y * 4398046511104 = X := by have := hXe.out; simpa using this
      clear hXe
      by_cases hy : y < 128
      · have hce : c = y := hcs.out hy
        have hcl : c < 128 := by omega
        have hv : bits .or .u64 (acc : Int) (IntKind.u64.wrap (IntKind.u64.wrap (bits .and .u8 (c : Int) 127) * 4398046511104)) = (X : Int) := by
          simp (disch := omega) only [u8_and127, u64_wrap_id, u64_orv42]
          omega
        have HP := HL.out hy
        clear hce HN HL hcs hcb hXe'
        go_wp2
        go_ret3
        exact ⟨by rw [← HP]; go_num, rfl⟩
      · have hce : c = y % 128 + 128 := hcb.out (by omega)
        have hcl : 128 ≤ c := by omega
        have hv : bits .or .u64 (acc : Int) (IntKind.u64.wrap (IntKind.u64.wrap (bits .and .u8 (c : Int) 127) * 4398046511104)) = ((acc + c % 128 * 4398046511104 : Nat) : Int) := by
          simp (disch := omega) only [u8_and127, u64_wrap_id, u64_orv42]
          omega
        have hX2 : Hid (acc + c % 128 * 4398046511104 + y / 128 * 2 ^ (7 * 7) = X) := by
          have e2 : (2 : Nat) ^ (7 * 7) = 562949953421312 := by decide
          show _ = _
          rw [e2]
          omega
        have hlt : acc + c % 128 * 4398046511104 < 2 ^ (7 * 7) := by
          have e2 : (2 : Nat) ^ (7 * 7) = 562949953421312 := by decide
          rw [e2]
          omega
        have HLT := hide hlt
        obtain ⟨hN1, hN2⟩ := HN.out (by omega)
        have HN2 := hide hN2
        clear hlt hce HN HL hcs hcb hXe' hN2
        go_wp2
        refine ⟨⟨7, acc + c % 128 * 4398046511104, y / 128, p + 1, by go_num, by go_num, (by first | rfl | (congr 1; omega)), by go_num, by omega, HLT.out, hX2, hN1, HN2.out⟩, by simp [intOf]⟩
    · have hacc' : acc < 562949953421312 := by simpa using hacc
      have hXe' : acc + y * 562949953421312 = X := by have := hXe.out; simpa using this
      clear hXe
      by_cases hy : y < 128
      · have hce : c = y := hcs.out hy
        have hcl : c < 128 := by omega
        have hv : bits .or .u64 (acc : Int) (IntKind.u64.wrap (IntKind.u64.wrap (bits .and .u8 (c : Int) 127) * 562949953421312)) = (X : Int) := by
          simp (disch := omega) only [u8_and127, u64_wrap_id, u64_orv49]
          omega
        have HP := HL.out hy
        clear hce HN HL hcs hcb hXe'
        go_wp2
        go_ret3
        exact ⟨by rw [← HP]; go_num, rfl⟩
      · have hce : c = y % 128 + 128 := hcb.out (by omega)
        have hcl : 128 ≤ c := by omega
        have hv : bits .or .u64 (acc : Int) (IntKind.u64.wrap (IntKind.u64.wrap (bits .and .u8 (c : Int) 127) * 562949953421312)) = ((acc + c % 128 * 562949953421312 : Nat) : Int) := by
          simp (disch := omega) only [u8_and127, u64_wrap_id, u64_orv49]
          omega
        have hX2 : Hid (acc + c % 128 * 562949953421312 + y / 128 * 2 ^ (7 * 8) = X) := by
          have e2 : (2 : Nat) ^ (7 * 8) = 72057594037927936 := by decide
          show _ = _
          rw [e2]
          omega
        have hlt : acc + c % 128 * 562949953421312 < 2 ^ (7 * 8) := by
          have e2 : (2 : Nat) ^ (7 * 8) = 72057594037927936 := by decide
          rw [e2]
          omega
        have HLT := hide hlt
        obtain ⟨hN1, hN2⟩ := HN.out (by omega)
        have HN2 := hide hN2
        clear hlt hce HN HL hcs hcb hXe' hN2
        go_wp2
        refine ⟨⟨8, acc + c % 128 * 562949953421312, y / 128, p + 1, by go_num, by go_num, (by first | rfl | (congr 1; omega)), by go_num, by omega, HLT.out, hX2, hN1, HN2.out⟩, by simp [intOf]⟩
    · have hacc' : acc < 72057594037927936 := by simpa using hacc
      have hXe' : acc + y * 72057594037927936 = X := by have := hXe.out; simpa using this
      clear hXe
      by_cases hy : y < 128
      · have hce : c = y := hcs.out hy
        have hcl : c < 128 := by omega
        have hv : bits .or .u64 (acc : Int) (IntKind.u64.wrap (IntKind.u64.wrap (bits .and .u8 (c : Int) 127) * 72057594037927936)) = (X : Int) := by
          simp (disch := omega) only [u8_and127, u64_wrap_id, u64_orv56]
          omega
        have HP := HL.out hy
        clear hce HN HL hcs hcb hXe'
        go_wp2
        go_ret3
        exact ⟨by rw [← HP]; go_num, rfl⟩
      · have hce : c = y % 128 + 128 := hcb.out (by omega)
        have hcl : 128 ≤ c := by omega
        have hv : bits .or .u64 (acc : Int) (IntKind.u64.wrap (IntKind.u64.wrap (bits .and .u8 (c : Int) 127) * 72057594037927936)) = ((acc + c % 128 * 72057594037927936 : Nat) : Int) := by
          simp (disch := omega) only [u8_and127, u64_wrap_id, u64_orv56]
          omega
        have hX2 : Hid (acc + c % 128 * 72057594037927936 + y / 128 * 2 ^ (7 * 9) = X) := by
          have e2 : (2 : Nat) ^ (7 * 9) = 9223372036854775808 := by decide
          show _ = _
          rw [e2]
          omega
        have hlt : acc + c % 128 * 72057594037927936 < 2 ^ (7 * 9) := by
          have e2 : (2 : Nat) ^ (7 * 9) = 9223372036854775808 := by decide
          rw [e2]
          omega
        have HLT := hide hlt
        obtain ⟨hN1, hN2⟩ := HN.out (by omega)
        have HN2 := hide hN2
        clear hlt hce HN HL hcs hcb hXe' hN2
        go_wp2
        refine ⟨⟨9, acc + c % 128 * 72057594037927936, y / 128, p + 1, by go_num, by go_num, (by first | rfl | (congr 1; omega)), by go_num, by omega, HLT.out, hX2, hN1, HN2.out⟩, by simp [intOf]⟩
    · have hacc' : acc < 9223372036854775808 := by simpa using hacc
      have hXe' : acc + y * 9223372036854775808 = X := by have := hXe.out; simpa using this
      clear hXe
      by_cases hy : y < 128
      · have hce : c = y := hcs.out hy
        have hcl : c < 128 := by omega
        have hc1 : c ≤ 1 := by omega
        have hv : bits .or .u64 (acc : Int) (IntKind.u64.wrap (IntKind.u64.wrap (bits .and .u8 (c : Int) 127) * 9223372036854775808)) = (X : Int) := by
          simp (disch := omega) only [u8_and127, u64_wrap_id, u64_orv63]
          omega
        have HP := HL.out hy
        clear hce HN HL hcs hcb hXe'
        go_wp2
        go_ret3
        exact ⟨by rw [← HP]; go_num, rfl⟩
      · exfalso; omega
end Go.Proofs.Qxb6609264a
