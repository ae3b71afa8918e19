import Derived.Test.Qxb6609544aDoorCompact
namespace Go.Proofs.Qxb6609544aDoor
open Go.RowKit Go.Sort Go.Lib

/-- The first loop found no repeat so far. -/
def Fine (d : Array Rg) (k : Nat) : Prop := letI := inhR; letI := decR; ∀ j, j < k → keeps d j = true
/-- The second loop's invariant. -/
def CI (d : Array Rg) (m k : Nat) (dk : Array Rg) : Prop := letI := inhR; letI := decR; CompInv d m k dk
def CU (d : Array Rg) (n : Nat) : List Rg := letI := inhR; letI := decR; compactUpTo d n

/-- All that the walk asks, of d in world w. -/
def Supply (pz : Addr) (g n : Nat) (d : Array Rg) (w : World) : Prop := letI := inhR; (∀ i, i < n → (d[i]!).ok) ∧ d.size = n ∧ Now pz w w g d

theorem Supply.one {pz : Addr} {g n : Nat} {d : Array Rg} {w : World} (h : Supply pz g n d w) {k : Nat} (hk : k + 1 < n) (hf : Fine d (k + 1)) :
    ∃ (p q p' q' : Nat) (b : Bool), Six w pz g ((k + 1) * 6) p q ∧ Six w pz g (k * 6) p' q' ∧ EqX pz p q p' q' b ∧ Hid ((b = true → CI d (k + 1 + 1) (k + 1) d) ∧ (b = false → Fine d (k + 1 + 1))) := by
  letI := inhR
  letI := decR
  obtain ⟨p, q, p', q', b, s1, s2, s3, hb1, hb2, _⟩ := lookAt h.1 h.2.2 h.2.1 hk rfl rfl
  refine ⟨p, q, p', q', b, s1, s2, s3, fun hb => CompInv.start hf (hb1 hb), fun hb j hj => ?_⟩
  by_cases e : j = k + 1
  · subst e; exact hb2 hb
  · exact hf j (by omega)

theorem Supply.two {pz : Addr} {g n : Nat} {d dk : Array Rg} {w wr : World} (h : Supply pz g n d w) {m kk : Nat} (hm : m + 1 < n) (hI : CI d (m + 1) kk dk) (hN : Now pz w wr g dk) :
    ∃ (p q p' q' : Nat) (b : Bool), Six wr pz g ((m + 1) * 6) p q ∧ Six wr pz g (m * 6) p' q' ∧ EqX pz p q p' q' b ∧ Hid ((b = true → CI d (m + 1 + 1) kk dk) ∧ (b = false → ∃ dk', CI d (m + 1 + 1) (kk + 1) dk' ∧
      ∀ nq, Now pz w (((((((wr.drewN nq).setCell ⟨g, kk * 6, none⟩ (.int .u64 0)).setCell ⟨g, kk * 6 + 1, none⟩ (.int .u64 p)).setCell ⟨g, kk * 6 + 2, none⟩ (.pointer (some pz))).setCell ⟨g, kk * 6 + 3, none⟩ (.int .u64 0)).setCell ⟨g, kk * 6 + 4, none⟩ (.int .u64 q)).setCell ⟨g, kk * 6 + 5, none⟩ (.pointer (some pz))) g dk')) := by
  letI := inhR
  letI := decR
  have hI' : CompInv d (m + 1) kk dk := hI
  have hlt := hI'.lt
  obtain ⟨p, q, p', q', b, s1, s2, s3, hb1, hb2, e1, e2⟩ := lookAt h.1 hN (hI'.size.trans h.2.1) hm (hI'.high m (by omega)) (hI'.high (m + 1) (by omega))
  refine ⟨p, q, p', q', b, s1, s2, s3, fun hb => hI'.skip (hb1 hb), fun hb => ⟨_, hI'.keep (by have := h.2.1; omega) (hb2 hb), ?_⟩⟩
  intro nq
  have := (hN.drewN nq).set kk (by have := hI'.size; have := h.2.1; omega) (d[m + 1]!)
  rw [e1, e2]
  exact this

theorem Supply.three {pz : Addr} {g n : Nat} {d dk : Array Rg} {w wr : World} (h : Supply pz g n d w) {m k : Nat} (hk : k < n) (hI : CI d m k dk) (hN : Now pz w wr g dk) :
    (∃ p q : Nat, Six wr pz g (k * 6) p q) ∧ (∀ o, wr.frozen? ⟨g, o, none⟩ = false) ∧ ∀ c, ∃ vs, ∀ ty, (Builtin.clear_ #[27] ty #[.slice (some ⟨g, k * 6, none⟩) (n - k) c]).run Tryd.prog wr = .ok (.tuple #[]) (wr.setCells g (k * 6) vs) := by
  letI := inhR
  letI := decR
  have hI' : CompInv d m k dk := hI
  have hs := hI'.size
  have hs2 := h.2.1
  refine ⟨⟨_, _, hN.1.six k (by omega)⟩, hN.2.1, fun c => clearE wr g (k * 6) (n - k) c (by omega) (fun j hj => ?_) hN.2.1⟩
  have h1 := hN.1 ((k * 6 + j) / 6) (by simp; omega) ((k * 6 + j) % 6) (by omega)
  rw [show 0 + (k * 6 + j) / 6 * 6 + (k * 6 + j) % 6 = k * 6 + j by omega, ent_get _ _ _ (by omega)] at h1
  rw [h1]; rfl

set_option maxHeartbeats 8000000 in
theorem comp2 (pz : Addr) (g cap n : Nat) (d : Array Rg) (hn2 : n ≤ 1048576) (hcap : n ≤ cap) (w : World) (S : Hid (Supply pz g n d w)) :
    Calls Tryd.prog 38 #[.slice (some ⟨g, 0, none⟩) n cap] w fun e w' => ∃ (kk : Nat) (dk : Array Rg), e = .returned (.slice (some ⟨g, 0, none⟩) kk cap) ∧ ((Fine d n ∧ kk = n ∧ Now pz w w' g d) ∨ (CI d n kk dk ∧ ∃ o vs wr, kk * 6 ≤ o ∧ Now pz w wr g dk ∧ w' = wr.setCells g o vs)) := by
  by_cases h2 : n < 2
  · go_enter Tryd.func38, Tryd.ntmps38
    go_wp2
    go_ret
    refine ⟨n, d, rfl, Or.inl ⟨fun j hj => ?_, rfl, S.out.2.2⟩⟩
    letI := inhR
    letI := decR
    exact keeps_lt_one d j (by omega)
  · go_enter Tryd.func38, Tryd.ntmps38
    go_wp2
    go_loopw [3] (fun s3 wr => ∃ k q : Nat, k + 1 ≤ n ∧ s3 = .int .i64 ((k + 1 : Nat) : Int) ∧ wr = w.drewN q ∧ Hid (Fine d (k + 1))) (fun s3 _ => n - (intOf s3).toNat)
    case atStart =>
      letI := inhR
      letI := decR
      exact ⟨0, 0, by omega, rfl, rfl, keeps_lt_one d⟩
    case round =>
      obtain ⟨k, q, hk, rfl, rfl, hkeep⟩ := hrel
      by_cases hlt : k + 1 < n
      · obtain ⟨p, q, p', q', b, ⟨x0, x1, x2, x3, x4, x5⟩, ⟨y0, y1, y2, y3, y4, y5⟩, ⟨heq, _⟩, B⟩ := S.out.one hlt hkeep.out
        cases b with
        | false =>
          have B1 := hide (B.out.2 rfl)
          clear B
          go_wp2_with fail
          go_quiet (fail)
          go_wp2
          go_roundw
          case rel => exact ⟨k + 1, _, by omega, by go_num, rfl, B1.out⟩
          case measure => simp [intOf]; omega
        | true =>
          have B1 := hide (B.out.1 rfl)
          clear B
          go_wp2_with fail
          go_quiet (fail)
          clear x0 x1 x2 x3 x4 x5 y0 y1 y2 y3 y4 y5 heq
          go_wp2
          go_loopw [3, 5] (fun s3 s5 wr => ∃ (kk k2 : Nat) (dk : Array Rg), s3 = .int .i64 kk ∧ s5 = .int .i64 ((k2 + 1 : Nat) : Int) ∧ kk < k + 1 + k2 + 1 ∧ k + 1 + (k2 + 1) ≤ n ∧ Hid (Now pz w wr g dk) ∧ Hid (CI d (k + 1 + k2 + 1) kk dk)) (fun _ s5 _ => n - (intOf s5).toNat)
          case atStart => exact ⟨k + 1, 0, d, rfl, rfl, by omega, by omega, S.out.2.2.drewN _, B1.out⟩
          case round =>
            clear B1
            obtain ⟨kk, k2, dk, rfl, rfl, hkk, hle, N2, I2⟩ := hrel
            by_cases hlt2 : k + 1 + k2 + 1 < n
            · obtain ⟨p, q, p', q', b, X, Y, ⟨_, heq⟩, B⟩ := S.out.two hlt2 I2.out N2.out
              rw [show (k + 1 + k2 + 1) * 6 = (k + 1) * 6 + (k2 + 1) * 6 by omega] at X
              rw [show (k + 1 + k2) * 6 = (k + 1) * 6 + k2 * 6 by omega] at Y
              obtain ⟨x0, x1, x2, x3, x4, x5⟩ := X
              obtain ⟨y0, y1, y2, y3, y4, y5⟩ := Y
              cases b with
              | true =>
                have B1 := hide (B.out.1 rfl)
                clear B
                simp only [Bool.not_true] at heq
                go_wp2_with fail
                go_quiet (fail)
                go_wp2
                go_roundw
                case rel => exact ⟨kk, k2 + 1, dk, rfl, by go_num, by omega, by omega, N2.out.drewN _, B1.out⟩
                case measure => simp [intOf]; omega
              | false =>
                have B1 := hide (B.out.2 rfl)
                clear B
                simp only [Bool.not_false] at heq
                go_wp2_with fail
                go_quiet (fail)
                clear y0 y1 y2 y3 y4 y5 heq
                obtain ⟨⟨p', q', z0, z1, z2, z3, z4, z5⟩, hfz, _⟩ := S.out.three (k := kk) (by omega) I2.out N2.out
                go_wp2
                obtain ⟨dk', I3, N3⟩ := B1.out
                go_roundw
                case rel => exact ⟨kk + 1, k2 + 1, dk', by go_num, by go_num, by omega, by omega, N3 nq, I3⟩
                case measure => simp [intOf]; omega
            · obtain ⟨_, _, hcl⟩ := S.out.three (k := kk) (by omega) I2.out N2.out
              obtain ⟨vs, hcl⟩ := hcl (cap - kk)
              go_wp2
              go_ret
              have e : k + 1 + k2 + 1 = n := by omega
              have I3 := I2.out
              rw [e] at I3
              exact ⟨kk, dk, rfl, Or.inr ⟨I3, _, _, _, Nat.le_refl _, N2.out, rfl⟩⟩
      · go_wp2
        go_ret
        have : k + 1 = n := by omega
        subst this
        exact ⟨k + 1, d, rfl, Or.inl ⟨hkeep.out, rfl, S.out.2.2.drewN _⟩⟩

/-- slices.Compact over entries. -/
theorem compactE (pz : Addr) (g cap n : Nat) (l : List Rg) (hn : l.length = n) (hn2 : n ≤ 1048576) (hcap : n ≤ cap) (hok : ∀ r ∈ l, r.ok) (w : World) (h : EntAt pz w g 0 l) (hf : Free w g) :
    Calls Tryd.prog 38 #[.slice (some ⟨g, 0, none⟩) n cap] w fun e w' => e = .returned (.slice (some ⟨g, 0, none⟩) (cpt l).length cap) ∧ EntAt pz w' g 0 (cpt l) ∧ w.grownBy w' (some g) := by
  letI := inhR
  letI := decR
  obtain ⟨d, rfl⟩ : ∃ d : Array Rg, l = d.toList := ⟨l.toArray, by simp⟩
  have hsz : d.size = n := by simpa using hn
  have hc : cpt d.toList = compactUpTo d d.size := by unfold cpt; simp
  rw [hc]
  have S : Supply pz g n d w := ⟨fun i hi => by rw [getElem!_pos d i (by omega)]; exact hok _ (by simp), hsz, h, hf, World.grownBy.refl _ _⟩
  refine (comp2 pz g cap n d hn2 hcap w (hide S)).mono ?_
  rintro e w' ⟨kk, dk, rfl, ⟨hF, rfl, hN⟩ | ⟨hI, o, vs, wr, ho, hN, rfl⟩⟩
  · rw [hsz, compactUpTo_all d _ hF]
    have : (List.range kk).map (d[·]!) = d.toList := by rw [← hsz]; exact range_map_get d
    rw [this]
    exact ⟨by simp [hsz], hN.1, hN.2.2⟩
  · have hI' : CompInv d n kk dk := hI
    have hl := hI'.len
    rw [hsz]
    refine ⟨by rw [hl], fun i hi j hj => ?_, hN.2.2.trans (grownBy_setCells g vs o wr)⟩
    have hi' : i < kk := by omega
    have hlt := hI'.lt
    have hs2 := hI'.size
    rw [World.cell?_setCells_out g vs o wr _ (fun _ _ => by show 0 + i * 6 + j < o ∨ _; omega)]
    have h1 := hN.1 i (by simp; omega) j hj
    rw [h1]
    have h2 := hI'.low i hi'
    rw [List.getElem?_eq_getElem hi] at h2
    have h3 := Option.some.inj h2
    rw [h3, getElem!_pos dk i (by omega)]
    simp
end Go.Proofs.Qxb6609544aDoor
