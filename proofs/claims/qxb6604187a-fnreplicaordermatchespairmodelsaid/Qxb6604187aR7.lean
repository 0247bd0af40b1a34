import Derived.Test.Qxb6604187aL3
import Derived.Test.Qxb6604187aT7
namespace Go.Proofs.Qxb6604187a
open Go.RowKit
attribute [local go_sem] World.cell?_alloc_some

theorem brokenR_of {ops : Nat → OpR} {r : OpR} {q n : Nat} (h : wB (ops q) r = true) (hq : q < n) : brokenR ops r n = true := (brokenR_iff ops r n).2 ⟨q, hq, h⟩
theorem brokenR_no {ops : Nat → OpR} {r : OpR} {q : Nat} (h0 : brokenR ops r q = false) (h : wB (ops q) r = false) : brokenR ops r (q + 1) = false := by
  simp only [brokenR, h0, h]; rfl

set_option maxRecDepth 100000 in
set_option maxHeartbeats 1000000 in
theorem rm_any (b off n cap : Nat) (ops : Nat → OpR) (w : World) (hn : n ≤ 4096) (hb : b < w.heap.size) (hops : OpsAt w b off ops n) :
    Calls Try.prog 11 #[.slice (some ⟨b, off, none⟩) n cap] w fun e w' => e = .returned (.int .i64 (rTo ops n n)) ∧ Below w.heap.size w w' := by
  go_enter Try.func11, Try.ntmps11
  go_wp2
  go_loopw [3, 4] (fun best j wr => ∃ k : Nat, k ≤ n ∧ j = .int .i64 k ∧ best = .int .i64 (rTo ops n k) ∧ Below w.heap.size w wr) (fun _ j _ => n - (intOf j).toNat)
  case atStart => exact ⟨0, Nat.zero_le _, rfl, rfl, Below.refl _ _⟩
  case round =>
    obtain ⟨wo, rfl⟩ : ∃ wo : World, wo = wr := ⟨_, rfl⟩
    obtain ⟨k, hk, rfl, rfl, bel⟩ := hrel
    by_cases hlt : k < n
    · obtain ⟨c0, c1, c2, c3, c4, c5, c6, c7, c8⟩ := (hops k hlt).below bel hb
      have hz := bel.size
      have bel1 : Hid (Below w.heap.size w (wo.alloc (.cells (opCells (ops k)).toArray 50))) := bel.alloc bel.size _
      have bx := hide (OpAt.boxed wo (ops k))
      have hsv := hide (served_any (ops k) (wo.alloc (.cells (opCells (ops k)).toArray 50)))
      have hm : Hid (rTo ops n (k + 1) = if servedB (ops k) = true ∧ (ops k).comp ≠ 0 ∧ brokenR ops (ops k) n = true ∧ (rTo ops n k = 0 ∨ (ops k).comp < rTo ops n k) then (ops k).comp else rTo ops n k) := rfl
      obtain ⟨o, hoo⟩ : ∃ o, o = ops k := ⟨_, rfl⟩
      rw [← hoo] at hm hsv bel1 bx c0 c1 c2 c3 c4 c5 c6 c7 c8
      have HO := hide hoo
      have HOPS := hide hops
      clear hoo hops
      generalize hbest : rTo ops n k = best at *
      clear hbest
      generalize servedB o = sv at hsv hm
      go_wp2_with fail
      refine hsv.out.mono ?_
      rintro e w1 ⟨rfl, hbw⟩
      have hz1 : wo.heap.size + 1 ≤ w1.heap.size := by have := hbw.size; simpa using this
      have belw : Below w.heap.size w w1 := bel1.out.trans (hbw.mono (by simp; omega))
      obtain ⟨d0, d1, d2, d3, d4, d5, d6, d7, d8⟩ := bx.out.below hbw (by simp)
      simp only [Nat.zero_add] at d1 d2 d3 d4 d5 d6 d7 d8
      clear hsv bx bel1 hbw c0 c1 c2 c3 c4 c5 c6 c7 c8 bel
      cases sv
      · have HM : Hid (rTo ops n (k + 1) = best) := by rw [Hid, hm.out]; simp
        have BW := hide belw
        clear hm belw HOPS
        go_wp2
        go_roundw
        case rel => exact ⟨k + 1, by omega, by go_num, by rw [HM.out], BW.out⟩
        case measure => simp [intOf]; omega
      by_cases hc : o.comp = 0
      · have hcb : (o.comp == 0) = true := by simp [hc]
        have HM : Hid (rTo ops n (k + 1) = best) := by rw [Hid, hm.out]; simp [hc]
        have BW := hide belw
        clear hm belw HOPS hc
        go_wp2
        go_roundw
        case rel => exact ⟨k + 1, by omega, by go_num, by rw [HM.out], BW.out⟩
        case measure => simp [intOf]; omega
      have hcb : (o.comp == 0) = false := by simp [hc]
      have HC := hide hc
      clear hc
      go_upto_block 2 with fail
      go_cut [6] (fun bk w' => bk = .bool (brokenR ops o n) ∧ Below w1.heap.size w1 w')
      case first =>
        have HB := hide belw
        clear belw hm
        go_wp2_with fail
        go_loopw [6, 7] (fun bk i wi => ∃ q : Nat, q ≤ n ∧ i = .int .i64 q ∧ bk = .bool false ∧ brokenR ops o q = false ∧ Below w1.heap.size w1 wi) (fun _ i _ => n - (intOf i).toNat)
        case atStart => exact ⟨0, Nat.zero_le _, rfl, rfl, rfl, Below.refl _ _⟩
        case round =>
          obtain ⟨wi, rfl⟩ : ∃ wi : World, wi = wr := ⟨_, rfl⟩
          obtain ⟨q, hq, rfl, rfl, hbq, beli⟩ := hrel
          by_cases hql : q < n
          · have hO := HOPS.out
            have belq : Below w.heap.size w wi := HB.out.trans (beli.mono HB.out.size)
            obtain ⟨e, he⟩ : ∃ e, e = ops q := ⟨_, rfl⟩
            obtain ⟨c0, c1, c2, c3, c4, c5, c6, c7, c8⟩ := he ▸ (hO q (by omega)).below belq hb
            clear hO
            have r2 := (beli.cell (p := ⟨wo.heap.size, 2, none⟩) (by show wo.heap.size < _; omega)).trans d2
            have r4 := (beli.cell (p := ⟨wo.heap.size, 4, none⟩) (by show wo.heap.size < _; omega)).trans d4
            have r6 := (beli.cell (p := ⟨wo.heap.size, 6, none⟩) (by show wo.heap.size < _; omega)).trans d6
            have r8 := (beli.cell (p := ⟨wo.heap.size, 8, none⟩) (by show wo.heap.size < _; omega)).trans d8
            have HQ := hide hbq
            have HEQ := hide he
            have hzi : wo.heap.size < wi.heap.size := by have := beli.size; omega
            have beli1 : Hid (Below w1.heap.size w1 (wi.alloc (.cells (opCells e).toArray 50))) := beli.alloc beli.size _
            have bx := hide (OpAt.boxed wi e)
            have hsv := hide (served_any e (wi.alloc (.cells (opCells e).toArray 50)))
            have hp : Hid (wB (ops q) o = (servedB e && decide (e.key = o.key) && decide (e.repl = o.repl) && !decide (e.comp = 0) && decide (e.comp < o.inv) && decide (o.ver < e.ver))) := by rw [← HEQ.out]; rfl
            clear he hbq d0 d1 d2 d3 d4 d5 d6 d7 d8 beli belq
            generalize servedB e = sv at hsv hp
            go_wp2_with fail
            refine hsv.out.mono ?_
            rintro e' w2 ⟨rfl, hbw⟩
            have hz2 : wi.heap.size + 1 ≤ w2.heap.size := by have := hbw.size; simpa using this
            have HW := hide (beli1.out.trans (hbw.mono (by have := beli1.out.size; exact this)))
            obtain ⟨d0, d1, d2, d3, d4, d5, d6, d7, d8⟩ := bx.out.below hbw (by simp)
            simp only [Nat.zero_add] at d1 d2 d3 d4 d5 d6 d7 d8
            have bw1 : Below (wo.heap.size + 1) wi w2 := ((Below.refl _ _).alloc (by omega) _).trans (hbw.mono (by simp; omega))
            have t2 := (bw1.cell (p := ⟨wo.heap.size, 2, none⟩) (by show wo.heap.size < _; omega)).trans r2
            have t4 := (bw1.cell (p := ⟨wo.heap.size, 4, none⟩) (by show wo.heap.size < _; omega)).trans r4
            have t6 := (bw1.cell (p := ⟨wo.heap.size, 6, none⟩) (by show wo.heap.size < _; omega)).trans r6
            have t8 := (bw1.cell (p := ⟨wo.heap.size, 8, none⟩) (by show wo.heap.size < _; omega)).trans r8
            clear hsv beli1 bx hbw bw1 c0 c1 c2 c3 c4 c5 c6 c7 c8 r2 r4 r6 r8 hz2 hzi
            cases sv
            · go_wp2
              go_roundw
              case rel => exact ⟨q + 1, by omega, by go_num, rfl, brokenR_no HQ.out (by rw [hp.out]; simp), HW.out⟩
              case measure => simp [intOf]; omega
            by_cases g2 : e.key = o.key
            · have gb2 := str_eq g2
              have G2 := hide g2
              clear g2
              by_cases g3 : e.repl = o.repl
              · have gb3 := str_eq g3
                have G3 := hide g3
                clear g3
                by_cases g4 : e.comp = 0
                · have gb4 : (e.comp != 0) = false := by simp [g4]
                  have G4 := hide g4
                  clear g4
                  go_wp2
                  go_roundw
                  case rel => exact ⟨q + 1, by omega, by go_num, rfl, brokenR_no HQ.out (by rw [hp.out]; simp [G4.out]), HW.out⟩
                  case measure => simp [intOf]; omega
                · have gb4 : (e.comp != 0) = true := by simp [g4]
                  have G4 := hide g4
                  clear g4
                  by_cases g5 : e.comp < o.inv
                  · have G5 := hide g5
                    by_cases g6 : o.ver < e.ver
                    · have G6 := hide g6
                      go_wp2
                      go_meet
                      case rel => exact ⟨by rw [brokenR_of (by rw [hp.out]; simp [G2.out, G3.out, G4.out, G5.out, G6.out]) hql], HW.out⟩
                    · have G6 := hide g6
                      go_wp2
                      go_roundw
                      case rel => exact ⟨q + 1, by omega, by go_num, rfl, brokenR_no HQ.out (by rw [hp.out]; simp [G6.out]), HW.out⟩
                      case measure => simp [intOf]; omega
                  · have G5 := hide g5
                    go_wp2
                    go_roundw
                    case rel => exact ⟨q + 1, by omega, by go_num, rfl, brokenR_no HQ.out (by rw [hp.out]; have h5 := G5.out; simp; intros; omega), HW.out⟩
                    case measure => simp [intOf]; omega
              · have gb3 := str_ne g3
                have G3 := hide g3
                clear g3
                go_wp2
                go_roundw
                case rel => exact ⟨q + 1, by omega, by go_num, rfl, brokenR_no HQ.out (by rw [hp.out]; simp [G3.out]), HW.out⟩
                case measure => simp [intOf]; omega
            · have gb2 := str_ne g2
              have G2 := hide g2
              clear g2
              go_wp2
              go_roundw
              case rel => exact ⟨q + 1, by omega, by go_num, rfl, brokenR_no HQ.out (by rw [hp.out]; simp [G2.out]), HW.out⟩
              case measure => simp [intOf]; omega
          · have : q = n := by omega
            have HQ : Hid (brokenR ops o n = false) := this ▸ hbq
            clear hbq this
            go_wp2
            go_meet
            case rel => exact ⟨by rw [HQ.out], beli⟩
      case rest =>
        obtain ⟨rfl, bel3⟩ := hcut
        have BW : Hid (Below w.heap.size w wc) := belw.trans (bel3.mono belw.size)
        have t5 := (bel3.cell (p := ⟨wo.heap.size, 5, none⟩) (by show wo.heap.size < _; omega)).trans d5
        clear d0 d1 d2 d3 d4 d5 d6 d7 d8 bel3 belw HOPS HO
        generalize brokenR ops o n = bb at *
        cases bb
        · have HM : Hid (rTo ops n (k + 1) = best) := by rw [Hid, hm.out]; simp
          clear hm
          go_wp2
          go_roundw
          case rel => exact ⟨k + 1, by omega, by go_num, by rw [HM.out], BW.out⟩
          case measure => simp [intOf]; omega
        · by_cases g1 : best = 0
          · have HM : Hid (rTo ops n (k + 1) = o.comp) := by rw [Hid, hm.out]; simp [g1, HC.out]
            clear hm
            subst g1
            go_wp2
            go_roundw
            case rel => exact ⟨k + 1, by omega, by go_num, by rw [HM.out], BW.out⟩
            case measure => simp [intOf]; omega
          · have gb1 : (best == 0) = false := by simp [g1]
            by_cases g2 : o.comp < best
            · have HM : Hid (rTo ops n (k + 1) = o.comp) := by rw [Hid, hm.out]; simp [g2, HC.out]
              clear hm g1
              go_wp2
              go_roundw
              case rel => exact ⟨k + 1, by omega, by go_num, by rw [HM.out], BW.out⟩
              case measure => simp [intOf]; omega
            · have HM : Hid (rTo ops n (k + 1) = best) := by rw [Hid, hm.out]; simp [g1, g2]
              clear hm g1
              go_wp2
              go_roundw
              case rel => exact ⟨k + 1, by omega, by go_num, by rw [HM.out], BW.out⟩
              case measure => simp [intOf]; omega
    · have : k = n := by omega
      subst this
      go_wp2
      go_ret
      exact ⟨rfl, bel⟩

set_option maxRecDepth 100000 in
set_option maxHeartbeats 400000 in
theorem rm_nil (ad : Option Addr) (cap : Nat) (ops : Nat → OpR) (w : World) :
    Calls Try.prog 11 #[.slice ad 0 cap] w fun e w' => e = .returned (.int .i64 (rTo ops 0 0)) ∧ Below w.heap.size w w' := by
  go_enter Try.func11, Try.ntmps11
  go_wp2
  refine wp_loop_rounds 1 ?_
  rw [rounds_succ]
  go_wp2
  go_ret
  exact ⟨rfl, Below.refl _ _⟩
end Go.Proofs.Qxb6604187a
