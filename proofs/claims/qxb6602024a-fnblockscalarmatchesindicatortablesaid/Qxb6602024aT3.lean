import Derived.Test.Qxb6602024aT2
namespace Go.Proofs.Qxb6602024a
open Go.RowKit

/-- The address of a cut. -/
def cutAddr (a : Option Addr) (l m s : Nat) : Option Addr := if m = l then a else a.map (·.add (l * s))
theorem sliced_cut (a : Option Addr) (l h m s : Nat) : sliced a l h m s = .slice (cutAddr a l m s) (h - l) (m - l) := rfl
theorem elem22 : Try.prog.underlying 22 = some (.slice (Try.prog.elem 22)) := by kernel_rfl
theorem size22 (w : World) : (sizeOf (Try.prog.elem 22)).run Try.prog w = .ok 1 w := by kernel_rfl
theorem run_from (w : World) (a : Option Addr) (m k : Nat) (hk : k ≤ m) : (Instr.slice 22 (.slice a m m) (some (.int .i64 (k : Int))) none none).run Try.prog w = .ok (.slice (cutAddr a k m 1) (m - k) (m - k)) w := by
  rw [run_slice_l (P := Try.prog) w 22 a m m elem22 .i64 (k : Int) (by omega) (by omega), size22]
  simp [Result.andThen, sliced_cut]
theorem run_upto (w : World) (a : Option Addr) (m k : Nat) (hk : k ≤ m) : (Instr.slice 22 (.slice a m m) none (some (.int .i64 (k : Int))) none).run Try.prog w = .ok (.slice (cutAddr a 0 m 1) k m) w := by
  rw [run_slice_h (P := Try.prog) w 22 a m m elem22 .i64 (k : Int) (by omega) (by omega), size22]
  simp [Result.andThen, sliced_cut]

theorem Bytes.cut {w : World} {a : Option Addr} {m : Nat} {g : Nat → Int} (h : Bytes w a m g) (l n : Nat) (hn : l + n ≤ m) : Bytes w (cutAddr a l m 1) n (fun t => g (l + t)) := fun h0 => by
  obtain ⟨b, off, rfl, hb, hc⟩ := h (by omega)
  refine ⟨b, off + l, ?_, hb, fun i hi => by rw [Nat.add_assoc]; exact hc (l + i) (by omega)⟩
  unfold cutAddr
  rw [if_neg (by omega)]
  simp [Addr.add_mid]

theorem run_shift {f : Nat → Int} {n o j : Nat} (ho : o ≤ n) : Run (fun t => f (o + t)) (n - o) 0 j ↔ Run f n o (o + j) := by
  constructor
  · intro h
    have := h.len
    refine ⟨by omega, by omega, fun t h1 h2 => ?_, fun h1 => h.stop (by omega)⟩
    have := h.all (t - o) (Nat.zero_le _) (by omega)
    rwa [show o + (t - o) = t by omega] at this
  · intro h
    have := h.len
    exact ⟨Nat.zero_le _, by omega, fun t _ h2 => h.all (o + t) (by omega) (by omega), fun h1 => h.stop (by omega)⟩
theorem tail_shift {f : Nat → Int} {n o : Nat} (ho : o ≤ n) : Tail (fun t => f (o + t)) (n - o) 0 ↔ Tail f n o := by
  constructor
  · rintro ⟨j, h, e⟩
    refine ⟨o + j, (run_shift ho).1 h, ?_⟩
    rcases e with e | ⟨e1, e2⟩
    · left; omega
    · exact Or.inr ⟨by omega, e2⟩
  · rintro ⟨j, h, e⟩
    have := h.le
    obtain ⟨i, rfl⟩ : ∃ i, j = o + i := ⟨j - o, by omega⟩
    refine ⟨i, (run_shift ho).2 h, ?_⟩
    rcases e with e | ⟨e1, e2⟩
    · left; omega
    · exact Or.inr ⟨by omega, e2⟩


set_option maxRecDepth 100000 in
set_option maxHeartbeats 1000000 in
theorem md_far (a : Option Addr) (n c : Nat) (s : Int) (w : World) (hn : n ≤ 1048576) (hf : (n : Int) - 1 ≤ s) :
    Calls Try.prog 13 #[.slice a n c, .int .i64 s] w fun e w' => e = .returned (.bool false) ∧ w' = w := by
  go_enter Try.func13, Try.ntmps13
  go_wp2
  go_ret
  exact ⟨rfl, rfl⟩

set_option maxRecDepth 100000 in
set_option maxHeartbeats 2000000 in
theorem md_any (b off n s : Nat) (f : Nat → Int) (w : World) (hn : n ≤ 1048576) (hs : s + 1 < n) (hb : b < w.heap.size) (hc : ∀ i, i < n → w.cell? ⟨b, off + i, none⟩ = some (.int .u8 (f i))) :
    Calls Try.prog 13 #[.slice (some ⟨b, off, none⟩) n n, .int .i64 (s : Int)] w fun e w' => Says e (Header f n s) ∧ w' = w := by
  have HC := hide hc
  have HBY : Hid (Bytes w (some ⟨b, off, none⟩) n f) := fun _ => ⟨b, off, rfl, hb, hc⟩
  have p0 := hc s (by omega)
  have p1 := hc (s + 1) hs
  have H1 := hide (white_any (f (s + 1)) w)
  obtain ⟨x, hx⟩ : ∃ x, x = f s := ⟨_, rfl⟩
  obtain ⟨y, hy⟩ : ∃ y, y = f (s + 1) := ⟨_, rfl⟩
  rw [← hx] at p0
  rw [← hy] at p1 H1
  have HX := hide hx
  have HY := hide hy
  clear hc hx hy
  by_cases e1 : x = 58
  case neg =>
    have b1 : (x != 58) = true := by simp [e1]
    have NO : Hid (¬ Header f n s) := fun h => e1 (HX.out.trans h.1)
    clear H1 e1
    go_enter Try.func13, Try.ntmps13
    go_wp2
    go_ret
    exact ⟨says_no NO.out, rfl⟩
  subst e1
  go_enter Try.func13, Try.ntmps13
  go_wp2_with fail
  refine H1.out.mono ?_
  rintro e w1 ⟨rfl, hw⟩
  obtain rfl : w = w1 := hw.symm
  clear H1 hw
  cases hwy : wh y
  · have NO : Hid (¬ Header f n s) := fun h => by
      have := h.2.1
      rw [← HY.out, hwy] at this
      cases this
    clear hwy
    go_wp2
    go_ret
    exact ⟨says_no NO.out, rfl⟩
  have HWY : Hid (wh (f (s + 1)) = true) := by rw [Hid, ← HY.out]; exact hwy
  clear hwy HY p0 p1
  go_wp2
  go_loop [5] (fun v => ∃ t : Nat, v = .int .i64 t ∧ s + 1 ≤ t ∧ t ≤ n ∧ ∀ k, s + 1 ≤ k → k < t → wh (f k) = true) (fun v => n - (intOf v).toNat)
  case atStart => exact ⟨s + 1, by go_num, Nat.le_refl _, by omega, fun k h1 h2 => by omega⟩
  case round =>
    obtain ⟨q, rfl, h1, h2, h3⟩ := hrel
    have H3 := hide h3
    clear h3
    by_cases hlt : q < n
    case neg =>
      obtain rfl : q = n := by omega
      have hrun : Run f q (s + 1) q := ⟨h1, h2, H3.out, fun h => absurd h hlt⟩
      have NO : Hid (¬ Header f q s) := fun h => by have := ((Header.at HX.out.symm HWY.out hrun).1 h).1; omega
      clear hrun H3
      go_wp2
      go_ret
      exact ⟨says_no NO.out, rfl⟩
    have pq := HC.out q hlt
    have H1 := hide (white_any (f q) w)
    obtain ⟨z, hz⟩ : ∃ z, z = f q := ⟨_, rfl⟩
    rw [← hz] at pq H1
    have HZ := hide hz
    clear hz
    go_wp2_with fail
    refine H1.out.mono ?_
    rintro e w1 ⟨rfl, hw⟩
    obtain rfl : w = w1 := hw.symm
    clear H1 hw
    cases hwz : wh z
    case true =>
      have HW := hide hwz
      clear hwz
      go_wp2
      go_round
      case rel =>
        exact ⟨q + 1, by go_num, by omega, by omega, fun k h4 h5 => by
          rcases Nat.lt_succ_iff_lt_or_eq.1 h5 with h5 | rfl
          · exact H3.out k h4 h5
          · rw [← HZ.out]; exact HW.out⟩
      case measure => simp [intOf]; omega
    case false =>
      have hrun : Run f n (s + 1) q := ⟨h1, h2, H3.out, fun _ => by rw [← HZ.out]; exact hwz⟩
      have HAT := hide (Header.at HX.out.symm HWY.out hrun)
      have bq : ((q : Int) == (n : Int)) = false := by simp; omega
      clear hrun H3 hwz HWY HX
      by_cases e2 : z = 124 ∨ z = 62
      case neg =>
        have b2 : (z != 124) = true := by simp; omega
        have b3 : (z != 62) = true := by simp; omega
        have NO : Hid (¬ Header f n s) := fun h => by
          have := (HAT.out.1 h).2.1
          rw [← HZ.out] at this
          exact e2 this
        clear HAT e2
        go_wp2
        go_ret
        exact ⟨says_no NO.out, rfl⟩
      have HE : Hid (f q = 124 ∨ f q = 62) := by rw [Hid, ← HZ.out]; exact e2
      obtain ⟨g, hg⟩ : ∃ g : Nat → Int, g = fun t => f (q + 1 + t) := ⟨_, rfl⟩
      obtain ⟨m, hm1, hm2⟩ : ∃ m, q + 1 + m ≤ n ∧ n ≤ q + 1 + m := ⟨n - (q + 1), by omega, by omega⟩
      have HAT' : Hid (Header f n s ↔ ∃ k, k ≤ 2 ∧ k ≤ m ∧ ind g k = true ∧ Tail f n (q + 1 + k)) := by
        rw [Hid, HAT.out, hg, show n - (q + 1) = m by omega]
        exact ⟨fun h => h.2.2, fun h => ⟨hlt, HE.out, h⟩⟩
      have HGG := hide hg
      clear HAT hg HE
      go_upto_region 6 with (fail)
      go_cut [61] (fun t w2 => t = .bool false ∧ w2 = w)
      case first =>
        rcases e2 with rfl | rfl
        · go_wp2
          go_meet
          case rel => exact ⟨rfl, rfl⟩
        · go_wp2
          go_meet
          case rel => exact ⟨rfl, rfl⟩
      case rest =>
        obtain ⟨rfl, hw⟩ := hcut
        obtain rfl : w = wc := hw.symm
        clear hw e2 pq bq
        have HRB := hide (HBY.out.cut (q + 1) m (by omega))
        have hfrom := run_from w (some ⟨b, off, none⟩) n (q + 1) (by omega)
        rw [show ((q + 1 : Nat) : Int) = (q : Int) + 1 by omega] at hfrom
        go_upto_region 9 with (fail)
        rw [show n - (q + 1) = m by omega]
        rw [← HGG.out] at HRB
        generalize cutAddr (some ⟨b, off, none⟩) (q + 1) n 1 = ra at *
        clear HBY hfrom
        go_wp2
        go_loop [7] (fun v => ∃ k : Nat, v = .int .i64 k ∧ k ≤ 3 ∧ k ≤ m + 1 ∧ ∀ k', k' < k → ¬ (ind g k' = true ∧ Tail f n (q + 1 + k'))) (fun v => 3 - (intOf v).toNat)
        case atStart => exact ⟨0, rfl, by omega, by omega, fun k h => absurd h (Nat.not_lt_zero _)⟩
        case round =>
          obtain ⟨k, rfl, hk3, hkm, hno⟩ := hrel
          have HNO := hide hno
          clear hno
          by_cases hk2 : k ≤ 2
          case neg =>
            have NO : Hid (¬ Header f n s) := fun h => by
              obtain ⟨k', h1, h2, h3, h4⟩ := HAT'.out.1 h
              exact HNO.out k' (by omega) ⟨h3, h4⟩
            clear HNO HAT'
            go_wp2
            go_ret
            exact ⟨says_no NO.out, rfl⟩
          by_cases hkm' : k ≤ m
          case neg =>
            have NO : Hid (¬ Header f n s) := fun h => by
              obtain ⟨k', h1, h2, h3, h4⟩ := HAT'.out.1 h
              exact HNO.out k' (by omega) ⟨h3, h4⟩
            clear HNO HAT'
            go_wp2
            go_ret
            exact ⟨says_no NO.out, rfl⟩
          have B1 := HRB.out.cut 0 k (by omega)
          have B2 := HRB.out.cut k (m - k) (by omega)
          have HI := hide (ind_any _ k m _ w hk2 B1)
          have HT := hide (tail_any _ (m - k) (m - k) _ w (by omega) B2)
          have e1 : ind (fun t => g (0 + t)) k = ind g k := by simp only [Nat.zero_add]
          rw [e1] at HI
          have HTT : Hid (Tail (fun t => g (k + t)) (m - k) 0 ↔ Tail f n (q + 1 + k)) := by
            have := tail_shift (f := f) (n := n) (o := q + 1 + k) (by omega)
            rw [Hid, ← this, show n - (q + 1 + k) = m - k by omega, HGG.out]
            simp only [Nat.add_assoc]
          have hf1 := run_upto w ra m k hkm'
          have hf2 := run_from w ra m k hkm'
          clear B1 B2 e1
          go_wp2_with fail
          refine HI.out.mono ?_
          rintro e w1 ⟨rfl, hw⟩
          obtain rfl : w = w1 := hw.symm
          clear HI hw
          cases hi : ind g k
          · have R : Hid (∀ k', k' < k + 1 → ¬ (ind g k' = true ∧ Tail f n (q + 1 + k'))) := fun k' h1 h2 => by
              rcases Nat.lt_succ_iff_lt_or_eq.1 h1 with h1 | rfl
              · exact HNO.out k' h1 h2
              · rw [hi] at h2; cases h2.1
            clear HT HTT HNO hi
            go_wp2
            go_round
            case rel => exact ⟨k + 1, by go_num, by omega, by omega, R.out⟩
            case measure => simp [intOf]; omega
          · have HII := hide hi
            clear hi
            go_wp2_with fail
            refine HT.out.mono ?_
            rintro e w1 ⟨⟨r, rfl, hr⟩, hw⟩
            obtain rfl : w = w1 := hw.symm
            have HR := hide (hr.trans HTT.out)
            clear HT hw hr HTT
            cases r
            · have R : Hid (∀ k', k' < k + 1 → ¬ (ind g k' = true ∧ Tail f n (q + 1 + k'))) := fun k' h1 h2 => by
                rcases Nat.lt_succ_iff_lt_or_eq.1 h1 with h1 | rfl
                · exact HNO.out k' h1 h2
                · have := HR.out.2 h2.2; cases this
              clear HNO HR
              go_wp2
              go_round
              case rel => exact ⟨k + 1, by go_num, by omega, by omega, R.out⟩
              case measure => simp [intOf]; omega
            · have Y : Hid (Header f n s) := HAT'.out.2 ⟨k, hk2, hkm', HII.out, HR.out.1 rfl⟩
              clear HNO HR
              go_wp2
              go_ret
              exact ⟨says_yes Y.out, rfl⟩

set_option maxRecDepth 100000 in
set_option maxHeartbeats 1000000 in
theorem zzbs {Q : Ending → World → Prop} (a : Value) (s : Int) (w : World) (h : Calls Try.prog 29 #[a, .int .i64 s] w fun e w' => (∃ r : Bool, e = .returned (.bool r) ∧ Q e w') ∧ w' = w) :
    Calls Try.prog 12 #[a, .int .i64 s] w fun e w' => (∃ r : Bool, e = .returned (.bool r) ∧ Q e w') ∧ w' = w := by
  have H := hide h
  clear h
  go_enter Try.func12, Try.ntmps12
  go_wp2_with fail
  refine H.out.mono ?_
  rintro e w1 ⟨⟨r, rfl, hq⟩, hw⟩
  obtain rfl : w = w1 := hw.symm
  have HQ := hide hq
  clear H hw hq
  go_wp2
  go_ret
  exact ⟨⟨r, rfl, HQ.out⟩, rfl⟩

/-- Both answer the same. -/
theorem both (a : Option Addr) (n : Nat) (s : Int) (f : Nat → Int) (w : World) (hn : n ≤ 1048576) (h0 : 0 ≤ s) (h1 : s < 9223372036854775807) (h : Bytes w a n f) :
    ∃ r : Bool, (Calls Try.prog 12 #[.slice a n n, .int .i64 s] w fun e w' => e = .returned (.bool r) ∧ w' = w) ∧ (Calls Try.prog 13 #[.slice a n n, .int .i64 s] w fun e w' => e = .returned (.bool r) ∧ w' = w) := by
  by_cases hf : (n : Int) ≤ s + 1
  · refine ⟨false, ?_, md_far a n n s w hn (by omega)⟩
    refine (zzbs (Q := fun e _ => e = .returned (.bool false)) _ s w ((bs_far a n n s w h0 h1 hf).mono ?_)).mono ?_
    · rintro e w' ⟨rfl, rfl⟩
      exact ⟨⟨false, rfl, rfl⟩, rfl⟩
    · rintro e w' ⟨⟨r, _, hq⟩, rfl⟩
      exact ⟨hq, rfl⟩
  · obtain ⟨k, rfl⟩ : ∃ k : Nat, s = (k : Int) := ⟨s.toNat, by omega⟩
    obtain ⟨b, off, rfl, hb, hc⟩ := h (by omega)
    obtain ⟨r, hr⟩ : ∃ r : Bool, r = true ↔ Header f n k := by
      by_cases hh : Header f n k
      · exact ⟨true, fun _ => hh, fun _ => rfl⟩
      · exact ⟨false, (fun e => by cases e), fun e => absurd e hh⟩
    have key : ∀ r' : Bool, (r' = true ↔ Header f n k) → r' = r := fun r' h' => by
      cases r <;> cases r' <;> simp_all
    refine ⟨r, ?_, (md_any b off n k f w hn (by omega) hb hc).mono ?_⟩
    · refine (zzbs (Q := fun e _ => e = .returned (.bool r)) _ _ w ((bs_any b off n n k f w hn (by omega) hb hc).mono ?_)).mono ?_
      · rintro e w' ⟨⟨r', rfl, h'⟩, rfl⟩
        exact ⟨⟨r', rfl, by rw [key r' h']⟩, rfl⟩
      · rintro e w' ⟨⟨r', _, hq⟩, rfl⟩
        exact ⟨hq, rfl⟩
    · rintro e w' ⟨⟨r', rfl, h'⟩, rfl⟩
      exact ⟨by rw [key r' h'], rfl⟩

set_option maxRecDepth 100000 in
set_option maxHeartbeats 1000000 in
theorem walk3 (a : Option Addr) (n c : Nat) (s : Int) (f : Nat → Int) (w : World) (hn : n ≤ maxLen) (h : Bytes w a n f) (hs : s ≤ 9223372036854775807) :
    Calls Try.prog 3 #[.slice a n c, .int .i64 s] w fun e w' => e = .returned (.bool true) ∧ Below w.heap.size w w' := by
  have H1 := hide (zz_any a n c s w hn)
  have HH := hide h
  clear h
  unfold maxLen at hn
  go_enter Try.func3, Try.ntmps3
  go_wp2_with fail
  refine H1.out.mono ?_
  rintro e w1 ⟨rfl, hw⟩
  obtain rfl : w = w1 := hw.symm
  clear H1 hw
  by_cases hl : n ≤ 1048576
  case neg =>
    rw [decide_eq_false hl]
    go_wp2
    go_ret
    exact ⟨rfl, Below.refl _ _⟩
  rw [decide_eq_true hl]
  by_cases h0 : s < 0
  · go_wp2
    go_ret
    exact ⟨rfl, Below.refl _ _⟩
  by_cases h1 : s = 9223372036854775807
  · subst h1
    go_wp2
    go_ret
    exact ⟨rfl, Below.refl _ _⟩
  have b1 : (s == 9223372036854775807) = false := by simp [h1]
  have H2 := hide (clone_any a n c f w hl HH.out)
  go_wp2_with fail
  refine H2.out.mono ?_
  rintro e w2 ⟨a', rfl, hB, bel⟩
  obtain ⟨r, hr1, hr2⟩ := both a' n s f w2 hl (by omega) (by omega) hB
  have R1 := hide hr1
  have R2 := hide hr2
  have HBL := hide bel
  clear H2 hB bel hr1 hr2 h1
  go_wp2_with fail
  refine R1.out.mono ?_
  rintro e w3 ⟨rfl, hw⟩
  obtain rfl : w2 = w3 := hw.symm
  clear R1 hw
  go_wp2_with fail
  refine R2.out.mono ?_
  rintro e w3 ⟨rfl, hw⟩
  obtain rfl : w2 = w3 := hw.symm
  clear R2 hw
  cases r
  all_goals
    go_wp2
    go_ret
    exact ⟨rfl, HBL.out⟩
end Go.Proofs.Qxb6602024a
