import Derived.Test.Qxb6602024aL1
import Derived.WalkKit
import Derived.Below
import Derived.Deep.Draws
import Derived.Deep.RegionHeld3
import Derived.Deep.MidRow
import Derived.Deep.OwnRows
import Derived.Lib.SliceRun
import Derived.Deep.DeepCutAuto
import Derived.Deep.CutBlock
import Derived.OpenShut
import Derived.WalkSmall
namespace Go.Proofs.Qxb6602024a
open Go.RowKit

theorem hide {p : Prop} (h : p) : Hid p := h
theorem Try.info5 : (Try.prog.info? 5).map (fun i => (i.zero, i.size, i.bytes)) = some (some (.int .u8 0), 1, 1) := by kernel_rfl

/-- The n bytes of the row that begins at 'a' are f 0, f 1, .. -/
def Bytes (w : World) (a : Option Addr) (n : Nat) (f : Nat → Int) : Prop :=
  0 < n → ∃ b off, a = some ⟨b, off, none⟩ ∧ b < w.heap.size ∧ ∀ i, i < n → w.cell? ⟨b, off + i, none⟩ = some (.int .u8 (f i))

set_option maxRecDepth 100000 in
set_option maxHeartbeats 1000000 in
theorem zz_any (a : Option Addr) (n c : Nat) (s : Int) (w : World) (hn : n ≤ maxLen) :
    Calls Try.prog 10 #[.slice a n c, .int .i64 s] w fun e w' => e = .returned (.bool (decide (n ≤ 1048576))) ∧ w' = w := by
  unfold maxLen at hn
  by_cases h : n ≤ 1048576
  · rw [decide_eq_true h]
    go_enter Try.func10, Try.ntmps10
    go_wp2
    go_ret
    exact ⟨rfl, rfl⟩
  · rw [decide_eq_false h]
    go_enter Try.func10, Try.ntmps10
    go_wp2
    go_ret
    exact ⟨rfl, rfl⟩

set_option maxRecDepth 100000 in
set_option maxHeartbeats 1000000 in
theorem space_any (x : Int) (w : World) : Calls Try.prog 35 #[.int .u8 x] w fun e w' => e = .returned (.bool (wh x)) ∧ w' = w := by
  obtain ⟨r, hr⟩ : ∃ r, r = wh x := ⟨_, rfl⟩
  rw [← hr]
  unfold wh at hr
  cases h1 : (x == 32)
  · cases h2 : (x == 9)
    · cases h3 : (x == 11)
      · cases h4 : (x == 12)
        · cases h5 : (x == 13)
          all_goals
            rw [h1, h2, h3, h4, h5] at hr
            subst hr
            go_enter Try.func35, Try.ntmps35
            go_wp2
            go_ret
            exact ⟨rfl, rfl⟩
        · rw [h1, h2, h3, h4] at hr
          subst hr
          go_enter Try.func35, Try.ntmps35
          go_wp2
          go_ret
          exact ⟨rfl, rfl⟩
      · rw [h1, h2, h3] at hr
        subst hr
        go_enter Try.func35, Try.ntmps35
        go_wp2
        go_ret
        exact ⟨rfl, rfl⟩
    · rw [h1, h2] at hr
      subst hr
      go_enter Try.func35, Try.ntmps35
      go_wp2
      go_ret
      exact ⟨rfl, rfl⟩
  · rw [h1] at hr
    subst hr
    go_enter Try.func35, Try.ntmps35
    go_wp2
    go_ret
    exact ⟨rfl, rfl⟩

set_option maxRecDepth 100000 in
set_option maxHeartbeats 1000000 in
theorem white_any (x : Int) (w : World) : Calls Try.prog 30 #[.int .u8 x] w fun e w' => e = .returned (.bool (wh x)) ∧ w' = w := by
  obtain ⟨r, hr⟩ : ∃ r, r = wh x := ⟨_, rfl⟩
  rw [← hr]
  unfold wh at hr
  cases h1 : (x == 32)
  · cases h2 : (x == 9)
    · cases h3 : (x == 11)
      · cases h4 : (x == 12)
        · cases h5 : (x == 13)
          all_goals
            rw [h1, h2, h3, h4, h5] at hr
            subst hr
            go_enter Try.func30, Try.ntmps30
            go_wp2
            go_ret
            exact ⟨rfl, rfl⟩
        · rw [h1, h2, h3, h4] at hr
          subst hr
          go_enter Try.func30, Try.ntmps30
          go_wp2
          go_ret
          exact ⟨rfl, rfl⟩
      · rw [h1, h2, h3] at hr
        subst hr
        go_enter Try.func30, Try.ntmps30
        go_wp2
        go_ret
        exact ⟨rfl, rfl⟩
    · rw [h1, h2] at hr
      subst hr
      go_enter Try.func30, Try.ntmps30
      go_wp2
      go_ret
      exact ⟨rfl, rfl⟩
  · rw [h1] at hr
    subst hr
    go_enter Try.func30, Try.ntmps30
    go_wp2
    go_ret
    exact ⟨rfl, rfl⟩

set_option maxRecDepth 100000 in
set_option maxHeartbeats 1000000 in
theorem dig_any (x : Int) (w : World) : Calls Try.prog 37 #[.int .u8 x] w fun e w' => e = .returned (.bool (dig x)) ∧ w' = w := by
  obtain ⟨r, hr⟩ : ∃ r, r = dig x := ⟨_, rfl⟩
  rw [← hr]
  unfold dig at hr
  by_cases h1 : 49 ≤ x
  · by_cases h2 : x ≤ 57
    all_goals
      simp only [h1, h2, decide_true, decide_false, Bool.and_true, Bool.and_false] at hr
      subst hr
      go_enter Try.func37, Try.ntmps37
      go_wp2
      go_ret
      exact ⟨rfl, rfl⟩
  · simp only [h1, decide_false, Bool.false_and] at hr
    subst hr
    go_enter Try.func37, Try.ntmps37
    go_wp2
    go_ret
    exact ⟨rfl, rfl⟩

set_option maxRecDepth 100000 in
set_option maxHeartbeats 1000000 in
theorem chomp_any (x : Int) (w : World) : Calls Try.prog 38 #[.int .u8 x] w fun e w' => e = .returned (.bool (chomp x)) ∧ w' = w := by
  obtain ⟨r, hr⟩ : ∃ r, r = chomp x := ⟨_, rfl⟩
  rw [← hr]
  unfold chomp at hr
  cases h1 : (x == 45)
  · cases h2 : (x == 43)
    all_goals
      rw [h1, h2] at hr
      subst hr
      go_enter Try.func38, Try.ntmps38
      go_wp2
      go_ret
      exact ⟨rfl, rfl⟩
  · rw [h1] at hr
    subst hr
    go_enter Try.func38, Try.ntmps38
    go_wp2
    go_ret
    exact ⟨rfl, rfl⟩

/-- The clone. -/
def CloneSaid (w w' : World) (n : Nat) (f : Nat → Int) (e : Ending) : Prop := ∃ a, e = .returned (.slice a n n) ∧ Bytes w' a n f ∧ Below w.heap.size w w'
structure ClInv (w wr : World) (n k : Nat) (f : Nat → Int) : Prop where
  bel : Below w.heap.size w wr
  row : wr.rowIs w.heap.size 5 n (fun i => .int .u8 (if i < k then f i else 0))
theorem ClInv.step {w wr : World} {n k : Nat} {f : Nat → Int} (h : ClInv w wr n k f) : ClInv w (wr.setCell ⟨w.heap.size, k, none⟩ (.int .u8 (f k))) n (k + 1) f := by
  refine ⟨h.bel.setCell (Nat.le_refl _) _, (h.row.set k (.int .u8 (f k))).congr fun i _ => ?_⟩
  by_cases e : i = k
  · subst e
    rw [if_pos rfl, if_pos (by omega)]
  · rw [if_neg e]
    by_cases h : i < k
    · rw [if_pos h, if_pos (by omega)]
    · rw [if_neg h, if_neg (by omega)]

set_option maxRecDepth 100000 in
set_option maxHeartbeats 1000000 in
theorem clone_any (a : Option Addr) (n c : Nat) (f : Nat → Int) (w : World) (hn : n ≤ 1048576) (h : Bytes w a n f) :
    Calls Try.prog 11 #[.slice a n c] w fun e w' => CloneSaid w w' n f e := by
  have qT : ∀ (w : World) (a : Option Addr) (n c n' c' : Nat), (binOp .eql 22 (.slice a n c) (.slice none n' c')).run Try.prog w = .ok (.bool a.isNone) w := fun w a n c n' c' => Lib.run_eql_slice_nil w _ _ a n c n' c' Try.underlying22
  have hmk := run_make_row' (P := Try.prog) 22 5 (.int .u8 0) 1 Try.underlying22 Try.info5 rfl .i64 .i64 n (by omega) (by omega)
  have HH := hide h
  cases a with
  | none =>
    obtain rfl : n = 0 := by
      by_cases h0 : n = 0
      · exact h0
      · obtain ⟨b, off, hq, _⟩ := h (by omega)
        cases hq
    clear h
    go_enter Try.func11, Try.ntmps11
    go_wp2
    go_ret
    exact ⟨none, rfl, fun h => absurd h (Nat.lt_irrefl _), Below.refl _ _⟩
  | some p =>
    clear h
    go_enter Try.func11, Try.ntmps11
    go_wp2
    go_loopw [4] (fun i wr => ∃ k : Nat, k ≤ n ∧ i = .int .i64 k ∧ ClInv w wr n k f) (fun i _ => n - (intOf i).toNat)
    case atStart => exact ⟨0, Nat.zero_le _, rfl, (Below.refl _ _).alloc (Nat.le_refl _) _, (World.rowIs_made w (.int .u8 0) n 5).congr fun i _ => by rw [if_neg (Nat.not_lt_zero _)]⟩
    case round =>
      obtain ⟨k, hk, rfl, ci⟩ := hrel
      clear hmk qT
      by_cases hlt : k < n
      · obtain ⟨b, off, hp, hb, hc⟩ := HH.out (by omega)
        cases hp
        have p0 := (ci.bel.cell (p := ⟨b, off + k, none⟩) hb).trans (hc k hlt)
        have q0 := ci.row.cell hlt
        have f0 := ci.row.frozen k
        have R := hide ci.step
        clear ci hc
        generalize f k = x at *
        go_wp2
        go_roundw
        case rel => exact ⟨k + 1, by omega, by go_num, R.out⟩
        case measure => simp [intOf]; omega
      · obtain rfl : k = n := by omega
        have R : Hid (Bytes wr (some ⟨w.heap.size, 0, none⟩) k f) := fun _ => ⟨w.heap.size, 0, rfl, ci.row.lt, fun i hi => by rw [Nat.zero_add, ci.row.cell hi, if_pos hi]⟩
        have HB := hide ci.bel
        clear ci
        go_wp2
        go_ret
        exact ⟨_, rfl, R.out, HB.out⟩

set_option maxRecDepth 100000 in
set_option maxHeartbeats 1000000 in
theorem over_any (a : Option Addr) (n c i : Nat) (f : Nat → Int) (w : World) (hn : n ≤ 1048576) (hi : i ≤ n) (h : Bytes w a n f) :
    Calls Try.prog 47 #[.slice a n c, .int .i64 (i : Int), .func (.func 35) #[] #[]] w fun e w' => (∃ j : Nat, e = .returned (.int .i64 (j : Int)) ∧ Run f n i j) ∧ w' = w := by
  have HH := hide h
  clear h
  go_enter Try.func47, Try.ntmps47
  go_wp2
  go_loop [1] (fun v => ∃ t : Nat, v = .int .i64 t ∧ i ≤ t ∧ t ≤ n ∧ ∀ k, i ≤ k → k < t → wh (f k) = true) (fun v => n - (intOf v).toNat)
  case atStart => exact ⟨i, rfl, Nat.le_refl _, hi, fun k h1 h2 => by omega⟩
  case round =>
    obtain ⟨t, rfl, h1, h2, h3⟩ := hrel
    have H3 := hide h3
    clear h3
    by_cases hlt : t < n
    · obtain ⟨b, off, rfl, hb, hc⟩ := HH.out (by omega)
      have p0 := hc t hlt
      have hs := hide (space_any (f t) w)
      obtain ⟨x, hx⟩ : ∃ x, x = f t := ⟨_, rfl⟩
      rw [← hx] at p0 hs
      have HX := hide hx
      clear hc hx
      go_wp2_with fail
      refine hs.out.mono ?_
      rintro e w1 ⟨rfl, hw⟩
      obtain rfl : w = w1 := hw.symm
      clear hs hw
      cases hwx : wh x
      · have R : Hid (Run f n i t) := ⟨h1, h2, H3.out, fun _ => by rw [← HX.out]; exact hwx⟩
        clear hwx H3
        go_wp2
        go_ret
        exact ⟨⟨t, rfl, R.out⟩, rfl⟩
      · have HW := hide hwx
        clear hwx
        go_wp2
        go_round
        case rel =>
          exact ⟨t + 1, by go_num, by omega, by omega, fun k h4 h5 => by
            rcases Nat.lt_succ_iff_lt_or_eq.1 h5 with h5 | rfl
            · exact H3.out k h4 h5
            · rw [← HX.out]; exact HW.out⟩
        case measure => simp [intOf]; omega
    · have R : Hid (Run f n i t) := ⟨h1, h2, H3.out, fun h => absurd h hlt⟩
      clear H3
      go_wp2
      go_ret
      exact ⟨⟨t, rfl, R.out⟩, rfl⟩

set_option maxRecDepth 100000 in
set_option maxHeartbeats 1000000 in
theorem skip_any (a : Option Addr) (n c i : Nat) (f : Nat → Int) (w : World) (hn : n ≤ 1048576) (hi : i ≤ n) (h : Bytes w a n f) :
    Calls Try.prog 36 #[.slice a n c, .int .i64 (i : Int)] w fun e w' => (∃ j : Nat, e = .returned (.int .i64 (j : Int)) ∧ Run f n i j) ∧ w' = w := by
  have HO := hide (over_any a n c i f w hn hi h)
  clear h
  go_enter Try.func36, Try.ntmps36
  go_wp2_with fail
  refine HO.out.mono ?_
  rintro e w1 ⟨⟨j, rfl, hr⟩, hw⟩
  obtain rfl : w = w1 := hw.symm
  have HR := hide hr
  clear HO hr hw
  go_wp2
  go_ret
  exact ⟨⟨j, rfl, HR.out⟩, rfl⟩

/-- The call answers whether P. -/
def Says (e : Ending) (P : Prop) : Prop := ∃ r : Bool, e = .returned (.bool r) ∧ (r = true ↔ P)
theorem says_yes {P : Prop} (h : P) : Says (.returned (.bool true)) P := ⟨true, rfl, fun _ => h, fun _ => rfl⟩
theorem says_no {P : Prop} (h : ¬ P) : Says (.returned (.bool false)) P := ⟨false, rfl, (fun e => by cases e), fun e => absurd e h⟩

set_option maxRecDepth 100000 in
set_option maxHeartbeats 1000000 in
theorem tail_any (a : Option Addr) (m c : Nat) (g : Nat → Int) (w : World) (hn : m ≤ 1048576) (h : Bytes w a m g) :
    Calls Try.prog 32 #[.slice a m c] w fun e w' => Says e (Tail g m 0) ∧ w' = w := by
  have HH := hide h
  clear h
  go_enter Try.func32, Try.ntmps32
  go_wp2
  go_loop [3] (fun v => ∃ t : Nat, v = .int .i64 t ∧ t ≤ m ∧ ∀ k, k < t → wh (g k) = true) (fun v => m - (intOf v).toNat)
  case atStart => exact ⟨0, rfl, Nat.zero_le _, fun k h => absurd h (Nat.not_lt_zero _)⟩
  case round =>
    obtain ⟨t, rfl, h2, h3⟩ := hrel
    have H3 := hide h3
    clear h3
    by_cases hlt : t < m
    · obtain ⟨b, off, rfl, hb, hc⟩ := HH.out (by omega)
      have p0 := hc t hlt
      have hs := hide (white_any (g t) w)
      obtain ⟨x, hx⟩ : ∃ x, x = g t := ⟨_, rfl⟩
      rw [← hx] at p0 hs
      have HX := hide hx
      clear hc hx
      go_wp2_with fail
      refine hs.out.mono ?_
      rintro e w1 ⟨rfl, hw⟩
      obtain rfl : w = w1 := hw.symm
      clear hs hw
      cases hwx : wh x
      · have R : Hid (Run g m 0 t) := ⟨Nat.zero_le _, h2, fun k _ hk => H3.out k hk, fun _ => by rw [← HX.out]; exact hwx⟩
        have hne : ((t : Int) == (m : Int)) = false := by simp; omega
        clear hwx H3
        by_cases h0 : t = 0
        · subst h0
          have hne' : ((0 : Int) == (m : Int)) = false := by simp; omega
          go_wp2
          go_ret
          refine ⟨says_no ?_, rfl⟩
          rw [Tail.of_run R.out]
          omega
        · have hpos : 0 < t := by omega
          cases h35 : (x == 35)
          · go_wp2
            go_ret
            refine ⟨says_no ?_, rfl⟩
            rw [Tail.of_run R.out, ← HX.out]
            simp at h35
            rintro (h | ⟨_, h⟩)
            · omega
            · exact absurd h h35
          · go_wp2
            go_ret
            refine ⟨says_yes ?_, rfl⟩
            rw [Tail.of_run R.out, ← HX.out]
            simp at h35
            exact Or.inr ⟨hpos, h35⟩
      · have HW := hide hwx
        clear hwx
        go_wp2
        go_round
        case rel =>
          exact ⟨t + 1, by go_num, by omega, fun k h5 => by
            rcases Nat.lt_succ_iff_lt_or_eq.1 h5 with h5 | rfl
            · exact H3.out k h5
            · rw [← HX.out]; exact HW.out⟩
        case measure => simp [intOf]; omega
    · obtain rfl : t = m := by omega
      have R : Hid (Run g t 0 t) := ⟨Nat.zero_le _, h2, fun k _ hk => H3.out k hk, fun h => absurd h hlt⟩
      clear H3
      go_wp2
      go_ret
      refine ⟨says_yes ?_, rfl⟩
      rw [Tail.of_run R.out]
      exact Or.inl rfl

set_option maxRecDepth 100000 in
set_option maxHeartbeats 1000000 in
theorem ind_any (a : Option Addr) (k c : Nat) (g : Nat → Int) (w : World) (hn : k ≤ 2) (h : Bytes w a k g) :
    Calls Try.prog 31 #[.slice a k c] w fun e w' => e = .returned (.bool (ind g k)) ∧ w' = w := by
  have HD := fun x => hide (dig_any x w)
  have HC := fun x => hide (chomp_any x w)
  obtain ⟨r, hr⟩ : ∃ r, r = ind g k := ⟨_, rfl⟩
  rw [← hr]
  rcases (by omega : k = 0 ∨ k = 1 ∨ k = 2) with rfl | rfl | rfl
  · rw [ind_0] at hr
    subst hr
    clear h HD HC
    go_enter Try.func31, Try.ntmps31
    go_wp2
    go_ret
    exact ⟨rfl, rfl⟩
  · rw [ind_1] at hr
    obtain ⟨b, off, rfl, hb, hc⟩ := h (by omega)
    have p0 := hc 0 (by omega)
    rw [Nat.add_zero] at p0
    generalize g 0 = x at *
    have H1 := HD x
    have H2 := HC x
    clear h HD HC hc
    go_enter Try.func31, Try.ntmps31
    go_wp2_with fail
    refine H1.out.mono ?_
    rintro e w1 ⟨rfl, hw⟩
    obtain rfl : w = w1 := hw.symm
    clear H1 hw
    cases hd : dig x
    · rw [hd] at hr
      go_wp2_with fail
      refine H2.out.mono ?_
      rintro e w1 ⟨rfl, hw⟩
      obtain rfl : w = w1 := hw.symm
      obtain rfl : r = chomp x := by rw [hr]; rfl
      clear H2 hw hr
      go_wp2
      go_ret
      exact ⟨rfl, rfl⟩
    · rw [hd] at hr
      obtain rfl : r = true := by rw [hr]; rfl
      clear H2 hr
      go_wp2
      go_ret
      exact ⟨rfl, rfl⟩
  · rw [ind_2] at hr
    obtain ⟨b, off, rfl, hb, hc⟩ := h (by omega)
    have p0 := hc 0 (by omega)
    have p1 := hc 1 (by omega)
    rw [Nat.add_zero] at p0
    generalize g 0 = x at *
    generalize g 1 = y at *
    have H1 := HD x
    have H2 := HC x
    have H3 := HD y
    have H4 := HC y
    clear h HD HC hc
    go_enter Try.func31, Try.ntmps31
    go_wp2_with fail
    refine H1.out.mono ?_
    rintro e w1 ⟨rfl, hw⟩
    obtain rfl : w = w1 := hw.symm
    clear H1 hw
    cases hd : dig x
    · rw [hd] at hr
      go_wp2_with fail
      refine H2.out.mono ?_
      rintro e w1 ⟨rfl, hw⟩
      obtain rfl : w = w1 := hw.symm
      clear H2 hw H4
      cases hcx : chomp x
      · rw [hcx] at hr
        obtain rfl : r = false := by rw [hr]; simp
        clear H3 hr
        go_wp2
        go_ret
        exact ⟨rfl, rfl⟩
      · rw [hcx] at hr
        go_wp2_with fail
        refine H3.out.mono ?_
        rintro e w1 ⟨rfl, hw⟩
        obtain rfl : w = w1 := hw.symm
        obtain rfl : r = dig y := by rw [hr]; simp
        clear H3 hw hr
        go_wp2
        go_ret
        exact ⟨rfl, rfl⟩
    · have hcx := (dig_not hd).2
      rw [hd, hcx] at hr
      go_wp2_with fail
      refine H4.out.mono ?_
      rintro e w1 ⟨rfl, hw⟩
      obtain rfl : w = w1 := hw.symm
      clear H4 hw H3
      cases hcy : chomp y
      · rw [hcy] at hr
        obtain rfl : r = false := by rw [hr]; rfl
        clear hr hcy
        rw [hcx] at H2
        clear hcx
        go_wp2_with fail
        refine H2.out.mono ?_
        rintro e w1 ⟨rfl, hw⟩
        obtain rfl : w = w1 := hw.symm
        clear H2 hw
        go_wp2
        go_ret
        exact ⟨rfl, rfl⟩
      · rw [hcy] at hr
        obtain rfl : r = true := by rw [hr]; rfl
        clear hr hcy H2 hcx
        go_wp2
        go_ret
        exact ⟨rfl, rfl⟩
end Go.Proofs.Qxb6602024a
