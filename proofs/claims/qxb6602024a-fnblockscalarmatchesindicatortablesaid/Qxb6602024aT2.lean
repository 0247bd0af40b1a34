import Derived.Test.Qxb6602024aT1
namespace Go.Proofs.Qxb6602024a
open Go.RowKit

set_option maxRecDepth 100000 in
set_option maxHeartbeats 1000000 in
theorem bs_far (a : Option Addr) (n c : Nat) (s : Int) (w : World) (h0 : 0 ≤ s) (h1 : s < 9223372036854775807) (hf : (n : Int) ≤ s + 1) :
    Calls Try.prog 29 #[.slice a n c, .int .i64 s] w fun e w' => e = .returned (.bool false) ∧ w' = w := by
  go_enter Try.func29, Try.ntmps29
  go_wp2
  go_ret
  exact ⟨rfl, rfl⟩

set_option maxRecDepth 100000 in
set_option maxHeartbeats 2000000 in
theorem bs_any (b off n c s : Nat) (f : Nat → Int) (w : World) (hn : n ≤ 1048576) (hs : s + 1 < n) (hb : b < w.heap.size) (hc : ∀ i, i < n → w.cell? ⟨b, off + i, none⟩ = some (.int .u8 (f i))) :
    Calls Try.prog 29 #[.slice (some ⟨b, off, none⟩) n c, .int .i64 (s : Int)] w fun e w' => Says e (Header f n s) ∧ w' = w := by
  have HC := hide hc
  have HBY : Hid (Bytes w (some ⟨b, off, none⟩) n f) := fun _ => ⟨b, off, rfl, hb, hc⟩
  have p0 := hc s (by omega)
  have p1 := hc (s + 1) hs
  have H1 := hide (space_any (f (s + 1)) w)
  have H2 := hide (skip_any (some ⟨b, off, none⟩) n c (s + 1) f w hn (by omega) HBY.out)
  rw [show ((s + 1 : Nat) : Int) = (s : Int) + 1 by omega] at H2
  obtain ⟨x, hx⟩ : ∃ x, x = f s := ⟨_, rfl⟩
  obtain ⟨y, hy⟩ : ∃ y, y = f (s + 1) := ⟨_, rfl⟩
  rw [← hx] at p0
  rw [← hy] at p1 H1
  have HX := hide hx
  have HY := hide hy
  clear hc hx hy
  by_cases e1 : x = 58
  case neg =>
    have b1 : (x != 58) = true := by simp [e1]
    have NO : Hid (¬ Header f n s) := fun h => e1 (HX.out.trans h.1)
    clear H1 H2 e1
    go_enter Try.func29, Try.ntmps29
    go_wp2
    go_ret
    exact ⟨says_no NO.out, rfl⟩
  subst e1
  go_enter Try.func29, Try.ntmps29
  go_wp2_with fail
  refine H1.out.mono ?_
  rintro e w1 ⟨rfl, hw⟩
  obtain rfl : w = w1 := hw.symm
  clear H1 hw
  cases hwy : wh y
  · have NO : Hid (¬ Header f n s) := fun h => by
      have := h.2.1
      rw [← HY.out, hwy] at this
      cases this
    clear H2 hwy
    go_wp2
    go_ret
    exact ⟨says_no NO.out, rfl⟩
  have HWY : Hid (wh (f (s + 1)) = true) := by rw [Hid, ← HY.out]; exact hwy
  clear hwy HY p0 p1
  go_wp2_with fail
  refine H2.out.mono ?_
  rintro e w1 ⟨⟨q, rfl, hrun⟩, hw⟩
  obtain rfl : w = w1 := hw.symm
  have HQ := hide hrun
  have HAT := hide (Header.at HX.out.symm HWY.out hrun)
  clear H2 hw
  by_cases hqn : q = n
  · subst hqn
    have NO : Hid (¬ Header f q s) := fun h => by have := (HAT.out.1 h).1; omega
    clear HAT hrun
    go_wp2
    go_ret
    exact ⟨says_no NO.out, rfl⟩
  have hqn' : q < n := by have := hrun.len; omega
  have bq : ((q : Int) == (n : Int)) = false := by simp; omega
  have pq := HC.out q hqn'
  obtain ⟨z, hz⟩ : ∃ z, z = f q := ⟨_, rfl⟩
  rw [← hz] at pq
  have HZ := hide hz
  clear hrun hz hqn
  by_cases e2 : z = 124 ∨ z = 62
  case neg =>
    have b2 : (z != 124) = true := by simp; omega
    have b3 : (z != 62) = true := by simp; omega
    have NO : Hid (¬ Header f n s) := fun h => by
      have := (HAT.out.1 h).2.1
      rw [← HZ.out] at this
      exact e2 this
    clear HAT e2
    go_wp2
    go_ret
    exact ⟨says_no NO.out, rfl⟩
  have HE : Hid (f q = 124 ∨ f q = 62) := by rw [Hid, ← HZ.out]; exact e2
  have HG : Hid (∀ k, Greedy (fun t => f (q + 1 + t)) (n - (q + 1)) k → (Header f n s ↔ Tail f n (q + 1 + k))) := fun k hk => Header.greedy HX.out.symm HWY.out HQ.out hqn' HE.out hk
  clear HAT HE HX HWY HQ HZ
  obtain ⟨g, hg⟩ : ∃ g : Nat → Int, g = fun t => f (q + 1 + t) := ⟨_, rfl⟩
  have HGG := hide hg
  rw [← hg] at HG
  clear hg
  have HSK : Hid (∀ k : Nat, q + 1 + k ≤ n → Calls Try.prog 36 #[.slice (some ⟨b, off, none⟩) n c, .int .i64 ((q + 1 + k : Nat) : Int)] w fun e w' => (∃ j : Nat, e = .returned (.int .i64 (j : Int)) ∧ Run f n (q + 1 + k) j) ∧ w' = w) := fun k hk => skip_any _ n c _ f w hn hk HBY.out
  go_upto_region 4 with (fail)
  go_cut [52] (fun t w2 => t = .bool false ∧ w2 = w)
  case first =>
    rcases e2 with rfl | rfl
    · go_wp2
      go_meet
      case rel => exact ⟨rfl, rfl⟩
    · go_wp2
      go_meet
      case rel => exact ⟨rfl, rfl⟩
  case rest =>
    obtain ⟨rfl, hw⟩ := hcut
    obtain rfl : w = wc := hw.symm
    clear hw e2 pq bq
    go_wp2
    go_loop [5, 6, 7] (fun v v1 v2 => ∃ (k : Nat) (b1 b2 : Bool), v = .int .i64 ((q + 1 + k : Nat) : Int) ∧ v1 = .bool b1 ∧ v2 = .bool b2 ∧ q + 1 + k ≤ n ∧ Flags g k b1 b2) (fun v _ _ => n - (intOf v).toNat)
    case atStart => exact ⟨0, false, false, by go_num, rfl, rfl, by omega, Flags.start g⟩
    case round =>
      obtain ⟨k, b1, b2, rfl, rfl, rfl, hk, fl⟩ := hrel
      by_cases hlt : q + 1 + k < n
      · have p0 := HC.out (q + 1 + k) hlt
        obtain ⟨x, hx⟩ : ∃ x, x = f (q + 1 + k) := ⟨_, rfl⟩
        rw [← hx] at p0
        have HX : Hid (g k = x) := by rw [Hid, HGG.out, hx]
        have HFL := hide fl
        clear hx fl
        by_cases hA : b1 = false ∧ 49 ≤ x ∧ x ≤ 57
        · obtain ⟨rfl, hx1, hx2⟩ := hA
          have R := hide (HFL.out.digit (by rw [HX.out]; unfold dig; simp [hx1, hx2]))
          clear HFL
          go_wp2
          go_round
          case rel => exact ⟨k + 1, true, b2, by go_num, rfl, rfl, by omega, R.out⟩
          case measure => simp [intOf]; omega
        have hA' : b1 = true ∨ (b1 = false ∧ x < 49) ∨ (b1 = false ∧ 49 ≤ x ∧ 57 < x) := by
          cases b1
          · by_cases h1 : 49 ≤ x
            · by_cases h2 : x ≤ 57
              · exact absurd ⟨rfl, h1, h2⟩ hA
              · exact Or.inr (Or.inr ⟨rfl, h1, by omega⟩)
            · exact Or.inr (Or.inl ⟨rfl, by omega⟩)
          · exact Or.inl rfl
        have HDN : Hid (b1 = true ∨ dig (g k) = false) := by
          rcases hA' with h | ⟨_, h⟩ | ⟨_, h1, h2⟩
          · exact Or.inl h
          · right; rw [HX.out]; unfold dig; simp; omega
          · right; rw [HX.out]; unfold dig; simp; omega
        clear hA
        by_cases hB : b2 = false ∧ (x = 45 ∨ x = 43)
        · obtain ⟨rfl, hB⟩ := hB
          have R := hide (HFL.out.sign (by rw [HX.out]; unfold chomp; rcases hB with rfl | rfl <;> rfl))
          clear HFL HDN
          rcases hA' with rfl | ⟨rfl, h49⟩ | ⟨_, h49, h57⟩
          · rcases hB with rfl | rfl
            all_goals
              go_wp2
              go_round
              case rel => exact ⟨k + 1, true, true, by go_num, rfl, rfl, by omega, R.out⟩
              case measure => simp [intOf]; omega
          · rcases hB with rfl | rfl
            all_goals
              go_wp2
              go_round
              case rel => exact ⟨k + 1, false, true, by go_num, rfl, rfl, by omega, R.out⟩
              case measure => simp [intOf]; omega
          · omega
        · have hB' : b2 = true ∨ (b2 = false ∧ (x == 45) = false ∧ (x == 43) = false) := by
            cases b2
            · right
              refine ⟨rfl, ?_, ?_⟩
              · simp; exact fun h => hB ⟨rfl, Or.inl h⟩
              · simp; exact fun h => hB ⟨rfl, Or.inr h⟩
            · exact Or.inl rfl
          have HCN : Hid (b2 = true ∨ chomp (g k) = false) := by
            rcases hB' with h | ⟨_, h1, h2⟩
            · exact Or.inl h
            · right; rw [HX.out]; unfold chomp; rw [h1, h2]; rfl
          have HDR := hide (HG.out k ⟨by omega, HFL.out.ok, fun _ => HFL.out.stop HDN.out HCN.out⟩)
          have HS2 := hide (HSK.out k (by omega))
          clear HFL HDN HCN hB
          rcases hA' with rfl | ⟨rfl, h49⟩ | ⟨rfl, h49, h57⟩ <;> rcases hB' with rfl | ⟨rfl, h45, h43⟩
          all_goals
            go_wp2_with fail
            refine HS2.out.mono ?_
            rintro e w1 ⟨⟨j, rfl, hrun⟩, hw⟩
            obtain rfl : w = w1 := hw.symm
            have TL := hide (HDR.out.trans (Tail.of_run hrun))
            have hjn := hrun.len
            clear HS2 hw hrun HDR
            by_cases hj : j = n
            · subst hj
              have Y := hide (TL.out.2 (Or.inl rfl))
              clear TL
              go_wp2
              go_ret
              exact ⟨says_yes Y.out, rfl⟩
            · have bj : ((j : Int) == (n : Int)) = false := by simp; omega
              by_cases hij : q + 1 + k < j
              · have pj := HC.out j (by omega)
                obtain ⟨v, hv⟩ : ∃ v, v = f j := ⟨_, rfl⟩
                rw [← hv] at pj TL
                clear hv
                cases h35 : (v == 35)
                · have N : Hid (¬ Header f n s) := fun h => by
                    simp at h35
                    rcases TL.out.1 h with h | ⟨_, h⟩
                    · exact hj h
                    · exact h35 h
                  clear TL
                  go_wp2
                  go_ret
                  exact ⟨says_no N.out, rfl⟩
                · have Y : Hid (Header f n s) := TL.out.2 (Or.inr ⟨hij, by simpa using h35⟩)
                  clear TL
                  go_wp2
                  go_ret
                  exact ⟨says_yes Y.out, rfl⟩
              · have N : Hid (¬ Header f n s) := fun h => by
                  rcases TL.out.1 h with h | ⟨h, _⟩
                  · exact hj h
                  · exact hij h
                clear TL
                go_wp2
                go_ret
                exact ⟨says_no N.out, rfl⟩
      · have HDR := hide (HG.out k ⟨by omega, fl.ok, fun h => by omega⟩)
        have HS2 := hide (HSK.out k hk)
        clear fl
        go_wp2_with fail
        refine HS2.out.mono ?_
        rintro e w1 ⟨⟨j, rfl, hrun⟩, hw⟩
        obtain rfl : w = w1 := hw.symm
        have TL := hide (HDR.out.trans (Tail.of_run hrun))
        have hj : j = n := by
          have := hrun.len
          have := hrun.le
          omega
        subst hj
        have Y := hide (TL.out.2 (Or.inl rfl))
        clear HS2 hw hrun HDR TL
        go_wp2
        go_ret
        exact ⟨says_yes Y.out, rfl⟩
end Go.Proofs.Qxb6602024a
