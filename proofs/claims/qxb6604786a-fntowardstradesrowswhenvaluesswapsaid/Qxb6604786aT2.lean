import Derived.Test.Qxb6604786aT1
namespace Go.Proofs.Qxb6604786a
open Go.RowKit

/-- What towardsOver's false tells. -/
structure Small (n0 n1 n2 n3 n4 m0 m1 : Nat) : Prop where
  h0 : n0 ≤ 65536
  h1 : n1 ≤ 65536
  h2 : n2 ≤ 65536
  h3 : n3 ≤ 65536
  h4 : n4 ≤ 65536
  h5 : m0 ≤ 65536
  h6 : m1 ≤ 65536
def OverSaid (n0 n1 n2 n3 n4 m0 m1 : Nat) (e : Ending) : Prop := ∃ r : Bool, e = .returned (.bool r) ∧ (r = false → Small n0 n1 n2 n3 n4 m0 m1)

set_option maxRecDepth 100000 in
set_option maxHeartbeats 1000000 in
theorem over_nil (a0 a1 a2 a3 a4 : Option Addr) (n0 c0 n1 c1 n2 c2 n3 c3 n4 c4 : Nat) (w : World) (h0 : n0 ≤ maxLen) (h1 : n1 ≤ maxLen) (h2 : n2 ≤ maxLen) (h3 : n3 ≤ maxLen) (h4 : n4 ≤ maxLen) :
    Calls Try.prog 15 #[.slice a0 n0 c0, .slice a1 n1 c1, .slice a2 n2 c2, .slice a3 n3 c3, .slice a4 n4 c4, .pointer none] w fun e w' => SomeBool e ∧ w' = w := by
  unfold maxLen at h0 h1 h2 h3 h4
  go_enter Try.func15, Try.ntmps15
  go_wp2
  all_goals (go_ret; exact ⟨someBool _, rfl⟩)

set_option maxRecDepth 100000 in
set_option maxHeartbeats 1000000 in
theorem over_any (a0 a1 a2 a3 a4 b0 b1 : Option Addr) (n0 c0 n1 c1 n2 c2 n3 c3 n4 c4 m0 e0 m1 e1 b off : Nat) (w : World) (h0 : n0 ≤ maxLen) (h1 : n1 ≤ maxLen) (h2 : n2 ≤ maxLen) (h3 : n3 ≤ maxLen) (h4 : n4 ≤ maxLen) (h5 : m0 ≤ maxLen) (h6 : m1 ≤ maxLen) (hR : TwoRows w b off b0 b1 m0 e0 m1 e1) :
    Calls Try.prog 15 #[.slice a0 n0 c0, .slice a1 n1 c1, .slice a2 n2 c2, .slice a3 n3 c3, .slice a4 n4 c4, .pointer (some ⟨b, off, none⟩)] w fun e w' => OverSaid n0 n1 n2 n3 n4 m0 m1 e ∧ w' = w := by
  unfold maxLen at h0 h1 h2 h3 h4 h5 h6
  obtain ⟨r0, r1⟩ := hR
  go_enter Try.func15, Try.ntmps15
  go_wp2
  all_goals go_ret
  all_goals first
    | exact ⟨⟨true, rfl, fun h => by cases h⟩, rfl⟩
    | exact ⟨⟨_, rfl, fun _ => ⟨by omega, by omega, by omega, by omega, by omega, by omega, by omega⟩⟩, rfl⟩

/-- What towardsDomain's true tells. -/
structure Dom (start frm nodes : Nat → Int) (n0 n1 n2 n3 n4 m0 m1 : Nat) : Prop where
  rows : m1 = m0
  slen : m0 + 1 ≤ n0
  s0 : 0 ≤ start 0
  sn : start m0 ≤ n1
  mono : ∀ u, u < m0 → start u ≤ start (u + 1)
  tails : ∀ u, u < m0 → ∀ k : Nat, start u ≤ k → k < start (u + 1) → 0 ≤ frm k ∧ frm k < m0
  nr : n3 = n2
  nv : n4 = n2
  heads : ∀ i, i < n2 → 0 ≤ nodes i ∧ nodes i < m0
def DomSaid (start frm nodes : Nat → Int) (n0 n1 n2 n3 n4 m0 m1 : Nat) (e : Ending) : Prop := ∃ r : Bool, e = .returned (.bool r) ∧ (r = true → Dom start frm nodes n0 n1 n2 n3 n4 m0 m1)
theorem dom_no {start frm nodes : Nat → Int} {n0 n1 n2 n3 n4 m0 m1 : Nat} : DomSaid start frm nodes n0 n1 n2 n3 n4 m0 m1 (.returned (.bool false)) := ⟨false, rfl, fun h => by cases h⟩

theorem mono_le {f : Nat → Int} {m : Nat} (h : ∀ u, u < m → f u ≤ f (u + 1)) : ∀ j i, i ≤ j → j ≤ m → f i ≤ f j
  | 0, i, hi, _ => by have : i = 0 := by omega
                      subst this; exact Int.le_refl _
  | j + 1, i, hi, hj => by
    rcases Nat.lt_succ_iff_lt_or_eq.1 (Nat.lt_succ_of_le hi) with h1 | rfl
    · exact Int.le_trans (mono_le h j i (by omega) (by omega)) (h j (by omega))
    · exact Int.le_refl _

/-- The numbers of a row of int32. -/
def In32 (n : Nat) (f : Nat → Int) : Prop := ∀ i, i < n → -2147483648 ≤ f i ∧ f i ≤ 2147483647

set_option maxRecDepth 100000 in
set_option maxHeartbeats 1000000 in
theorem dom_any (a0 a1 a2 a3 a4 b0 b1 : Option Addr) (n0 c0 n1 c1 n2 c2 n3 c3 n4 c4 m0 e0 m1 e1 b off : Nat) (start frm nodes : Nat → Int) (w : World) (hS : Small n0 n1 n2 n3 n4 m0 m1) (hR : TwoRows w b off b0 b1 m0 e0 m1 e1)
    (hs : IsRow .i64 w a0 n0 start) (hf : IsRow .i32 w a1 n1 frm) (hn : IsRow .i32 w a2 n2 nodes) (wf : In32 n1 frm) (wn : In32 n2 nodes) :
    Calls Try.prog 16 #[.slice a0 n0 c0, .slice a1 n1 c1, .slice a2 n2 c2, .slice a3 n3 c3, .slice a4 n4 c4, .pointer (some ⟨b, off, none⟩)] w fun e w' => DomSaid start frm nodes n0 n1 n2 n3 n4 m0 m1 e ∧ Below w.heap.size w w' := by
  obtain ⟨h0, h1, h2, h3, h4, h5, h6⟩ := hS
  obtain ⟨r0, r1⟩ := hR
  by_cases hm : m1 = m0
  case neg =>
    have hb : ((m1 : Int) != (m0 : Int)) = true := by simp; omega
    go_enter Try.func16, Try.ntmps16
    go_wp2
    go_ret
    exact ⟨dom_no, Below.refl _ _⟩
  subst hm
  by_cases hl : m1 + 1 ≤ n0
  case neg =>
    go_enter Try.func16, Try.ntmps16
    go_wp2
    go_ret
    exact ⟨dom_no, Below.refl _ _⟩
  obtain ⟨bs, os, rfl, hbs, cs⟩ := hs (by omega)
  have q0 := cs 0 (by omega)
  have q1 := cs m1 (by omega)
  rw [Nat.add_zero] at q0
  by_cases hs0 : start 0 < 0
  case pos =>
    go_enter Try.func16, Try.ntmps16
    go_wp2
    go_ret
    exact ⟨dom_no, Below.refl _ _⟩
  by_cases hsn : (n1 : Int) < start m1
  case pos =>
    go_enter Try.func16, Try.ntmps16
    go_wp2
    go_ret
    exact ⟨dom_no, Below.refl _ _⟩
  have HF := hide hf
  have HN := hide hn
  have HS := hide cs
  have HWF := hide wf
  have HWN := hide wn
  clear hf hn cs wf wn hs
  go_enter Try.func16, Try.ntmps16
  go_wp2
  go_loopw [14] (fun i wr => ∃ k : Nat, k ≤ m1 ∧ i = .int .i64 k ∧ (∀ u, u < k → start u ≤ start (u + 1)) ∧ Below w.heap.size w wr) (fun i _ => m1 - (intOf i).toNat)
  case atStart => exact ⟨0, Nat.zero_le _, rfl, fun _ h => absurd h (Nat.not_lt_zero _), Below.refl _ _⟩
  case round =>
    obtain ⟨k, hk, rfl, hmo, bel⟩ := hrel
    have HMO := hide hmo
    clear hmo q0 q1 r0 r1
    by_cases hlt : k < m1
    · have p0 := (bel.cell (p := ⟨bs, os + k, none⟩) hbs).trans (HS.out k (by omega))
      have p1 := (bel.cell (p := ⟨bs, os + (k + 1), none⟩) hbs).trans (HS.out (k + 1) (by omega))
      have HB := hide bel
      clear bel
      by_cases hle : start k ≤ start (k + 1)
      · go_upto_region 11 with (fail)
        go_quiet (fail)
        go_wp2
        go_roundw
        case rel =>
          exact ⟨k + 1, by omega, by go_num, fun u hu => by
            rcases Nat.lt_succ_iff_lt_or_eq.1 hu with hu | rfl
            · exact HMO.out u hu
            · exact hle, below_drewN HB.out _⟩
        case measure => simp [intOf]; omega
      · go_upto_region 11 with (fail)
        go_quiet (fail)
        go_wp2
        go_ret
        exact ⟨dom_no, below_drewN HB.out _⟩
    · obtain rfl : k = m1 := by omega
      have HST : Hid (∀ u, u ≤ k → 0 ≤ start u ∧ start u ≤ n1) := fun u hu => by
        have e1 := mono_le HMO.out u 0 (Nat.zero_le _) hu
        have e2 := mono_le HMO.out k u hu (Nat.le_refl _)
        omega
      obtain ⟨w1, rfl⟩ : ∃ w1 : World, w1 = wr := ⟨_, rfl⟩
      go_wp2
      go_loopw [15] (fun i wr => ∃ u : Nat, u ≤ k ∧ i = .int .i64 u ∧ (∀ v, v < u → ∀ j : Nat, start v ≤ j → j < start (v + 1) → 0 ≤ frm j ∧ frm j < k) ∧ Below w.heap.size w wr) (fun i _ => k - (intOf i).toNat)
      case atStart => exact ⟨0, Nat.zero_le _, rfl, fun _ h => absurd h (Nat.not_lt_zero _), bel⟩
      case round =>
        clear bel
        obtain ⟨u, hu, rfl, ht, bel⟩ := hrel
        have HT := hide ht
        have HB := hide bel
        clear ht
        obtain ⟨wo, rfl⟩ : ∃ wo : World, wo = wr := ⟨_, rfl⟩
        by_cases hlt : u < k
        · have p0 := (bel.cell (p := ⟨bs, os + u, none⟩) hbs).trans (HS.out u (by omega))
          have p1 := (bel.cell (p := ⟨bs, os + (u + 1), none⟩) hbs).trans (HS.out (u + 1) (by omega))
          obtain ⟨x, hx⟩ : ∃ x : Nat, start u = x := ⟨(start u).toNat, by have := HST.out u hu; omega⟩
          obtain ⟨y, hy⟩ : ∃ y : Nat, start (u + 1) = y := ⟨(start (u + 1)).toNat, by have := HST.out (u + 1) hlt; omega⟩
          have hxy : x ≤ y := by have := HMO.out u hlt; omega
          have hyn : y ≤ n1 := by have := HST.out (u + 1) hlt; omega
          rw [hx] at p0
          rw [hy] at p1
          have HX := hide hx
          have HY := hide hy
          clear hx hy bel
          go_wp2
          go_loop [16] (fun i => ∃ j : Nat, x ≤ j ∧ j ≤ y ∧ i = .int .i64 j ∧ (∀ t : Nat, x ≤ t → t < j → 0 ≤ frm t ∧ frm t < k)) (fun i => y - (intOf i).toNat)
          case atStart => exact ⟨x, Nat.le_refl _, hxy, rfl, fun t h1 h2 => by omega⟩
          case round =>
            obtain ⟨j, hxj, hjy, rfl, hj⟩ := hrel
            have HJ := hide hj
            clear hj
            by_cases hlt' : j < y
            · obtain ⟨bf, ofs, rfl, hbf, cf⟩ := HF.out (by omega)
              have p2 := (HB.out.cell (p := ⟨bf, ofs + j, none⟩) hbf).trans (cf j (by omega))
              have hw := HWF.out j (by omega)
              clear cf
              obtain ⟨z, hz⟩ : ∃ z, z = frm j := ⟨_, rfl⟩
              rw [← hz] at p2 hw
              obtain ⟨hw1, hw2⟩ := hw
              have HZ := hide hz
              clear hz
              by_cases hz0 : z < 0
              · go_wp2
                go_ret
                exact ⟨dom_no, HB.out⟩
              · by_cases hz1 : (k : Int) ≤ z
                · go_wp2
                  go_ret
                  exact ⟨dom_no, HB.out⟩
                · go_wp2
                  go_round
                  case rel =>
                    exact ⟨j + 1, by omega, by omega, by go_num, fun t h1 h2 => by
                      rcases Nat.lt_succ_iff_lt_or_eq.1 h2 with h2 | rfl
                      · exact HJ.out t h1 h2
                      · rw [← HZ.out]; omega⟩
                  case measure => simp [intOf]; omega
            · obtain rfl : j = y := by omega
              go_wp2
              go_roundw
              case rel =>
                exact ⟨u + 1, by omega, by go_num, fun v hv t h1 h2 => by
                  rcases Nat.lt_succ_iff_lt_or_eq.1 hv with hv | rfl
                  · exact HT.out v hv t h1 h2
                  · rw [HX.out] at h1
                    rw [HY.out] at h2
                    exact HJ.out t (by omega) (by omega), HB.out⟩
              case measure => simp [intOf]; omega
        · obtain rfl : u = k := by omega
          by_cases hr : n3 = n2
          case neg =>
            have hb : ((n3 : Int) != (n2 : Int)) = true := by simp; omega
            go_wp2
            go_ret
            exact ⟨dom_no, HB.out⟩
          have hb : ((n3 : Int) != (n2 : Int)) = false := by simp; omega
          by_cases hv : n4 = n2
          case neg =>
            have hb : ((n4 : Int) != (n2 : Int)) = true := by simp; omega
            go_wp2
            go_ret
            exact ⟨dom_no, HB.out⟩
          have hb' : ((n4 : Int) != (n2 : Int)) = false := by simp; omega
          have FIN : Hid ((∀ i, i < n2 → 0 ≤ nodes i ∧ nodes i < u) → Dom start frm nodes n0 n1 n2 n3 n4 u u) := fun h => ⟨rfl, hl, by omega, by omega, HMO.out, HT.out, hr, hv, h⟩
          clear hr hv bel HT
          go_wp2
          go_loop [17] (fun i => ∃ j : Nat, j ≤ n2 ∧ i = .int .i64 j ∧ (∀ t : Nat, t < j → 0 ≤ nodes t ∧ nodes t < u)) (fun i => n2 - (intOf i).toNat)
          case atStart => exact ⟨0, Nat.zero_le _, rfl, fun _ h => absurd h (Nat.not_lt_zero _)⟩
          case round =>
            obtain ⟨j, hj2, rfl, hj⟩ := hrel
            have HJ := hide hj
            clear hj
            by_cases hlt' : j < n2
            · obtain ⟨bf, ofs, rfl, hbf, cf⟩ := HN.out (by omega)
              have p2 := (HB.out.cell (p := ⟨bf, ofs + j, none⟩) hbf).trans (cf j (by omega))
              have hw := HWN.out j (by omega)
              clear cf
              obtain ⟨z, hz⟩ : ∃ z, z = nodes j := ⟨_, rfl⟩
              rw [← hz] at p2 hw
              obtain ⟨hw1, hw2⟩ := hw
              have HZ := hide hz
              clear hz
              by_cases hz0 : z < 0
              · go_wp2
                go_ret
                exact ⟨dom_no, HB.out⟩
              · by_cases hz1 : (u : Int) ≤ z
                · go_wp2
                  go_ret
                  exact ⟨dom_no, HB.out⟩
                · go_wp2
                  go_round
                  case rel =>
                    exact ⟨j + 1, by omega, by go_num, fun t h2 => by
                      rcases Nat.lt_succ_iff_lt_or_eq.1 h2 with h2 | rfl
                      · exact HJ.out t h2
                      · rw [← HZ.out]; omega⟩
                  case measure => simp [intOf]; omega
            · obtain rfl : j = n2 := by omega
              go_wp2
              go_ret
              exact ⟨⟨true, rfl, fun _ => FIN.out HJ.out⟩, HB.out⟩
end Go.Proofs.Qxb6604786a
