import Derived.Test.Qxb6604187aT4
import Derived.Deep.AppendLies
import Derived.Deep.QuietTactic
import Derived.Deep.DeepCutAuto
import Derived.Deep.CutBlock
import Derived.OpenShut
import Derived.WalkSmall
namespace Go.Proofs.Qxb6604187a
open Go.RowKit

theorem Try.info3 : (Try.prog.info? 3).map (fun i => (i.zero, i.size, i.bytes)) = some (some (.int .i64 0), 1, 8) := by kernel_rfl

/-- The walk stands where this has been laid round the goal. -/
theorem stand {p : Prop} (h : Hid p) : p := h

/-- The lines of the first k operations. -/
def linesTo (ops : Nat → OpR) : Nat → List Int
  | 0 => []
  | k + 1 => (linesTo ops k ++ [(ops k).inv]) ++ (if (ops k).comp = 0 then [] else [(ops k).comp])
theorem linesTo_len (ops : Nat → OpR) : ∀ k, (linesTo ops k).length ≤ 2 * k
  | 0 => Nat.le_refl _
  | k + 1 => by
    have := linesTo_len ops k
    unfold linesTo
    split <;> simp <;> omega

/-- What is known of the lines where 'linesOK' says true. -/
structure LinesFine (ops : Nat → OpR) (n : Nat) : Prop where
  fine : ∀ i, i < n → 1 ≤ (ops i).inv ∧ 0 ≤ (ops i).comp
  nodup : (linesTo ops n).Nodup
def LinesSaid (ops : Nat → OpR) (n : Nat) (e : Ending) : Prop := ∃ r : Bool, e = .returned (.bool r) ∧ (r = true → LinesFine ops n)
theorem linesNo (ops : Nat → OpR) (n : Nat) : LinesSaid ops n (.returned (.bool false)) := ⟨false, rfl, fun h => by cases h⟩

theorem linesTo_no {ops : Nat → OpR} {k : Nat} (h : (ops k).comp = 0) : linesTo ops (k + 1) = linesTo ops k ++ [(ops k).inv] := by simp [linesTo, h]
theorem linesTo_yes {ops : Nat → OpR} {k : Nat} (h : ¬ (ops k).comp = 0) : linesTo ops (k + 1) = (linesTo ops k ++ [(ops k).inv]) ++ [(ops k).comp] := by simp [linesTo, h]

theorem own_ge {w : World} {B : Nat} {e : TypeId} {size g len cap n : Nat} {xs : List Value} (h : w.ownsRow B e size (.slice (some ⟨g, 0, none⟩) len cap) n xs) : B ≤ g := by
  obtain ⟨_, h1 | ⟨g', cap', cur, hv, hg, _⟩⟩ := h
  · simp at h1
  · simp at hv; omega

theorem own_cell {w : World} {B : Nat} {e : TypeId} {size g len cap n : Nat} {xs : List Value} (h : w.ownsRow B e size (.slice (some ⟨g, 0, none⟩) len cap) n xs) (j : Nat) (v : Value) (hj : xs[j]? = some v) : w.cell? ⟨g, j, none⟩ = some v := by
  obtain ⟨hl, h1 | ⟨g', cap', cur, hv, hg, hh, _, _, hsz, ht⟩⟩ := h
  · simp at h1
  · simp at hv
    obtain ⟨rfl, _⟩ := hv
    subst ht
    simp only [World.cell?, hh]
    have : (cur.toList.take (n * size))[j]? = cur[j]? := by
      rw [List.getElem?_take_of_lt]
      · simp
      · have := (List.getElem?_eq_some_iff.1 hj).1; simp at this; omega
    rw [← this]
    simpa using hj

set_option maxRecDepth 100000 in
set_option maxHeartbeats 1000000 in
theorem lines_any (b off n cap : Nat) (ops : Nat → OpR) (w : World) (hn : n ≤ 4096) (hb : b < w.heap.size) (hops : OpsAt w b off ops n) (hf : ∀ i, i < n → OpFine (ops i)) :
    Calls Try.prog 8 #[.slice (some ⟨b, off, none⟩) n cap] w fun e w' => LinesSaid ops n e ∧ Below w.heap.size w w' := by
  obtain ⟨i0, hi, hz0, hz1, hz2⟩ := info_parts Try.info3
  go_enter Try.func8, Try.ntmps8
  go_wp2_with (at_make; refine stand ?_)
  unfold Hid
  refine wpList_make_own _ rfl _ _ 51 rfl w.heap.size 3 i0 (.int .i64 0) 1 Try.underlying51 hi hz0 hz1 .i64 .i64 (2 * (n : Int)) (2 * n) rfl rfl (by simp) (by rw [hz2]; omega) (by unfold maxLen; omega) (Nat.le_refl _) ?_
  intro w0 hown0 hgrow0
  have bel0 : Below w.heap.size w w0 := (Below.refl _ _).grown hgrow0 (Nat.le_refl _) (fun k h => by cases h)
  clear hgrow0
  go_wp2
  go_loopw [3, 4] (fun v i wr => ∃ k g c : Nat, k ≤ n ∧ i = .int .i64 k ∧ v = .slice (some ⟨g, 0, none⟩) (linesTo ops k).length c ∧
      wr.ownsRow w.heap.size 3 1 (.slice (some ⟨g, 0, none⟩) (linesTo ops k).length c) (linesTo ops k).length ((linesTo ops k).map (Value.int .i64)) ∧ Below w.heap.size w wr ∧ ∀ j, j < k → 1 ≤ (ops j).inv ∧ 0 ≤ (ops j).comp) (fun _ i _ => n - (intOf i).toNat)
  case atStart => exact ⟨0, w.heap.size, 2 * n, Nat.zero_le _, rfl, rfl, hown0, bel0, fun j hj => absurd hj (Nat.not_lt_zero _)⟩
  case round =>
    obtain ⟨k, g, c, hk, rfl, rfl, hown, bel, hgood⟩ := hrel
    clear hown0 bel0
    by_cases hlt : k < n
    · obtain ⟨c0, c1, c2, c3, c4, c5, c6, c7, c8⟩ := (hops k hlt).below bel hb
      have hL := linesTo_len ops k
      have hbz := bel.size
      by_cases h1 : (ops k).inv < 1
      · generalize ops k = o at *
        clear hown hgood hf hops
        go_wp2
        go_ret
        exact ⟨linesNo _ _, bel⟩
      by_cases h2 : (ops k).comp < 0
      · generalize ops k = o at *
        clear hown hgood hf hops
        go_wp2
        go_ret
        exact ⟨linesNo _ _, bel⟩
      have hgood' : ∀ j, j < k + 1 → 1 ≤ (ops j).inv ∧ 0 ≤ (ops j).comp := fun j hj => by
        rcases Nat.lt_succ_iff_lt_or_eq.1 hj with hj | rfl
        · exact hgood j hj
        · exact ⟨by omega, by omega⟩
      have HG := hide hgood'
      have hge := own_ge hown
      clear hgood hgood' hf hops
      by_cases h3 : (ops k).comp = 0
      · have hl := hide (linesTo_no h3)
        generalize hxs : linesTo ops k = xs at *
        generalize ops k = o at *
        clear hxs
        rw [h3] at c5
        go_wp2_with (at_builtin; refine stand ?_)
        unfold Hid
        refine wpList_append_lies _ rfl _ _ 51 rfl w.heap.size 3 i0 (.int .i64 0) 1 8 Try.underlying51 hi hz0 hz1 hz2 rfl (by omega) (.slice (some ⟨g, 0, none⟩) xs.length c) xs.length (xs.map (Value.int .i64)) rfl (hown.alloc _) ⟨wr.heap.size, 0, none⟩ 1 1 [.int .i64 o.inv] rfl rfl (cell_one_new _ _ _) (by simp [Value.oneCell']) (by omega) (by unfold maxLen; omega) (by omega) (by simp; omega) (wr.heap.size + 1) (by simp) ?_
        intro g1 cap1 w1 hown1 hgrow1 hat1 hlt1
        have hb1 : Below w.heap.size w w1 := (bel.alloc hbz _).grown hgrow1 (by simp; omega) (fun j hj => by simp [Value.ownBlock] at hj; omega)
        have hc5 := (hb1.cell (p := ⟨b, off + k * 9 + 5, none⟩) hb).trans ((bel.cell (p := ⟨b, off + k * 9 + 5, none⟩) hb).symm.trans c5)
        have R : Hid (w1.ownsRow w.heap.size 3 1 (.slice (some ⟨g1, 0, none⟩) (linesTo ops (k + 1)).length cap1) (linesTo ops (k + 1)).length ((linesTo ops (k + 1)).map (Value.int .i64))) := by
          rw [hl.out]; simpa [Hid] using hown1
        have hlen : Hid (xs.length + 1 = (linesTo ops (k + 1)).length) := by rw [hl.out]; simp [Hid]
        clear hgrow1 hown1 hown hat1 hl c0 c1 c2 c3 c4 c5 c6 c7 c8
        go_wp2
        go_roundw
        case rel => exact ⟨k + 1, g1, cap1, by omega, by go_num, by rw [← hlen.out], R.out, hb1, HG.out⟩
        case measure => simp [intOf]; omega
      · have hl := hide (linesTo_yes h3)
        have hb3 : ((ops k).comp != 0) = true := by simp [h3]
        generalize hxs : linesTo ops k = xs at *
        generalize ops k = o at *
        clear hxs h3
        go_wp2_with (at_builtin; refine stand ?_)
        unfold Hid
        refine wpList_append_lies _ rfl _ _ 51 rfl w.heap.size 3 i0 (.int .i64 0) 1 8 Try.underlying51 hi hz0 hz1 hz2 rfl (by omega) (.slice (some ⟨g, 0, none⟩) xs.length c) xs.length (xs.map (Value.int .i64)) rfl (hown.alloc _) ⟨wr.heap.size, 0, none⟩ 1 1 [.int .i64 o.inv] rfl rfl (cell_one_new _ _ _) (by simp [Value.oneCell']) (by omega) (by unfold maxLen; omega) (by omega) (by simp; omega) (wr.heap.size + 1) (by simp) ?_
        intro g1 cap1 w1 hown1 hgrow1 hat1 hlt1
        have hb1 : Below w.heap.size w w1 := (bel.alloc hbz _).grown hgrow1 (by simp; omega) (fun j hj => by simp [Value.ownBlock] at hj; omega)
        have hc5 := (hb1.cell (p := ⟨b, off + k * 9 + 5, none⟩) hb).trans ((bel.cell (p := ⟨b, off + k * 9 + 5, none⟩) hb).symm.trans c5)
        have hge1 := own_ge hown1
        have hbz1 := hb1.size
        have HW := hide hown1
        clear hgrow1 hown1 hown hat1 c0 c1 c2 c3 c4 c5 c6 c7 c8
        go_wp2_with (at_builtin; refine stand ?_)
        unfold Hid
        refine wpList_append_lies _ rfl _ _ 51 rfl w.heap.size 3 i0 (.int .i64 0) 1 8 Try.underlying51 hi hz0 hz1 hz2 rfl (by omega) (.slice (some ⟨g1, 0, none⟩) (xs.length + 1) cap1) (xs.length + 1) (xs.map (Value.int .i64) ++ [.int .i64 o.inv]) rfl (HW.out.alloc _) ⟨w1.heap.size, 0, none⟩ 1 1 [.int .i64 o.comp] rfl rfl (cell_one_new _ _ _) (by simp [Value.oneCell']) (by omega) (by unfold maxLen; omega) (by omega) (by simp; omega) (w1.heap.size + 1) (by simp) ?_
        intro g2 cap2 w2 hown2 hgrow2 hat2 hlt2
        have hb2 : Below w.heap.size w w2 := (hb1.alloc hbz1 _).grown hgrow2 (by simp; omega) (fun j hj => by simp [Value.ownBlock] at hj; omega)
        have R : Hid (w2.ownsRow w.heap.size 3 1 (.slice (some ⟨g2, 0, none⟩) (linesTo ops (k + 1)).length cap2) (linesTo ops (k + 1)).length ((linesTo ops (k + 1)).map (Value.int .i64))) := by
          rw [hl.out]; simpa [Hid] using hown2
        have hlen : Hid (xs.length + 1 + 1 = (linesTo ops (k + 1)).length) := by rw [hl.out]; simp [Hid]
        clear hgrow2 hown2 hat2 hl hc5 HW
        go_wp2
        go_roundw
        case rel => exact ⟨k + 1, g2, cap2, by omega, by go_num, by rw [← hlen.out], R.out, hb2, HG.out⟩
        case measure => simp [intOf]; omega
    · have : k = n := by omega
      subst this
      have hL := linesTo_len ops k
      have hfin : ∀ h : (linesTo ops k).Nodup, LinesSaid ops k (.returned (.bool true)) := fun h => ⟨true, rfl, fun _ => ⟨hgood, h⟩⟩
      generalize hxs : linesTo ops k = xs at *
      have hc : ∀ j (hj : j < xs.length), wr.cell? ⟨g, j, none⟩ = some (.int .i64 xs[j]) := fun j hj => own_cell hown j _ (by simp [hj])
      have HFIN := hide hfin
      have HC := hide hc
      clear hfin hxs hc hgood hown hf hops
      go_wp2
      go_loopw [5] (fun i wi => ∃ p m : Nat, p ≤ xs.length ∧ i = .int .i64 p ∧ wi = wr.drewN m ∧ (∀ s t : Nat, s < p → s < t → ∀ (ht : t < xs.length) (hs : s < xs.length), xs[s] ≠ xs[t])) (fun i _ => xs.length - (intOf i).toNat)
      case atStart => exact ⟨0, 0, Nat.zero_le _, rfl, rfl, fun s t hs => absurd hs (Nat.not_lt_zero _)⟩
      case round =>
        obtain ⟨wx, rfl⟩ : ∃ wx : World, wx = wr := ⟨_, rfl⟩
        obtain ⟨p, m, hp, rfl, rfl, hno⟩ := hrel
        have HNO := hide hno
        clear hno
        by_cases hpl : p < xs.length
        · have hcp := HC.out p hpl
          go_wp2
          go_loopw [6] (fun i wi => ∃ q m : Nat, p + 1 ≤ q ∧ q ≤ xs.length ∧ i = .int .i64 q ∧ wi = wr.drewN m ∧ (∀ t : Nat, p < t → t < q → ∀ (ht : t < xs.length), xs[p] ≠ xs[t])) (fun i _ => xs.length - (intOf i).toNat)
          case atStart => exact ⟨p + 1, m, Nat.le_refl _, by omega, by go_num, rfl, fun t h1 h2 => by omega⟩
          case round =>
            obtain ⟨q, m2, hq1, hq2, rfl, rfl, hnq⟩ := hrel
            have HNQ := hide hnq
            clear hnq
            by_cases hql : q < xs.length
            · have hcq := HC.out q hql
              obtain ⟨x, hx⟩ : ∃ x, x = xs[p] := ⟨_, rfl⟩
              obtain ⟨y, hy⟩ : ∃ y, y = xs[q] := ⟨_, rfl⟩
              rw [← hx] at hcp
              rw [← hy] at hcq
              have HX := hide hx
              have HY := hide hy
              have i1 : (p : Int) < (xs.length : Int) := by omega
              have i2 : (q : Int) < (xs.length : Int) := by omega
              clear hx hy
              by_cases hxy : x = y
              · subst hxy
                go_wp2
                go_quiet (fail)
                go_wp2
                go_ret
                exact ⟨linesNo _ _, below_drewN (below_drewN bel _) _⟩
              · have hb : (x == y) = false := by simp [hxy]
                have HN := hide hxy
                clear hxy
                go_wp2
                go_quiet (fail)
                go_wp2
                go_roundw
                case rel => exact ⟨q + 1, _, by omega, by omega, by go_num, rfl, fun t h1 h2 ht => by
                  rcases Nat.lt_succ_iff_lt_or_eq.1 h2 with h2 | rfl
                  · exact HNQ.out t h1 h2 ht
                  · rw [← HX.out, ← HY.out]; exact HN.out⟩
                case measure => simp [intOf]; omega
            · have : q = xs.length := by omega
              clear hcp hq2
              go_wp2
              go_roundw
              case rel => exact ⟨p + 1, _, by omega, by go_num, rfl, fun s t h1 h2 ht hs => by
                rcases Nat.lt_succ_iff_lt_or_eq.1 h1 with h1 | rfl
                · exact HNO.out s t h1 h2 ht hs
                · exact HNQ.out t h2 (by omega) ht⟩
              case measure => simp [intOf]; omega
        · go_wp2
          go_ret
          refine ⟨HFIN.out ?_, below_drewN bel _⟩
          exact List.pairwise_iff_getElem.2 (fun s t hs ht hst => HNO.out s t (by omega) hst ht hs)

set_option maxRecDepth 100000 in
set_option maxHeartbeats 400000 in
theorem lines_nil (ad : Option Addr) (cap : Nat) (ops : Nat → OpR) (w : World) :
    Calls Try.prog 8 #[.slice ad 0 cap] w fun e w' => LinesSaid ops 0 e ∧ Below w.heap.size w w' := by
  obtain ⟨i0, hi, hz0, hz1, hz2⟩ := info_parts Try.info3
  go_enter Try.func8, Try.ntmps8
  go_wp2_with (at_make; refine stand ?_)
  unfold Hid
  refine wpList_make_own _ rfl _ _ 51 rfl w.heap.size 3 i0 (.int .i64 0) 1 Try.underlying51 hi hz0 hz1 .i64 .i64 0 0 rfl rfl rfl (by omega) (by unfold maxLen; omega) (Nat.le_refl _) ?_
  intro w0 hown0 hgrow0
  have bel0 : Below w.heap.size w w0 := (Below.refl _ _).grown hgrow0 (Nat.le_refl _) (fun k h => by cases h)
  clear hgrow0 hown0
  go_wp2
  refine wp_loop_rounds 1 ?_
  rw [rounds_succ]
  go_wp2
  refine wp_loop_rounds 1 ?_
  rw [rounds_succ]
  go_wp2
  go_ret
  exact ⟨⟨true, rfl, fun _ => ⟨fun i h => absurd h (Nat.not_lt_zero _), List.nodup_nil⟩⟩, bel0⟩
end Go.Proofs.Qxb6604187a
