import Derived.Test.Qxb6604187aT4
import Derived.Test.Qxb6604187aL2
import Derived.Deep.DeepCutAuto
import Derived.Deep.CutBlock
namespace Go.Proofs.Qxb6604187a
open Go.RowKit
attribute [local go_sem] World.cell?_alloc_some

theorem OpAt.boxed (w : World) (o : OpR) : OpAt (w.alloc (.cells (opCells o).toArray 50)) w.heap.size 0 o := by
  have hb := heap_alloc_new w (.cells (opCells o).toArray 50)
  refine ⟨?_, ?_, ?_, ?_, ?_, ?_, ?_, ?_, ?_⟩ <;> (simp only [World.cell?, hb]; rfl)

set_option maxRecDepth 100000 in
set_option maxHeartbeats 1000000 in
theorem sm_any (after thn : Int) (same higher : Bool) (b off n cap : Nat) (ops : Nat → OpR) (w : World) (hn : n ≤ 4096) (hb : b < w.heap.size) (hops : OpsAt w b off ops n) :
    Calls Try.prog 14 #[.int .i64 after, .int .i64 thn, .bool same, .bool higher, .slice (some ⟨b, off, none⟩) n cap] w fun e w' => e = .returned (.int .i64 (mTo after thn same higher ops n)) ∧ Below w.heap.size w w' := by
  go_enter Try.func14, Try.ntmps14
  go_wp2
  go_loopw [11, 12] (fun best j wr => ∃ k : Nat, k ≤ n ∧ j = .int .i64 k ∧ best = .int .i64 (mTo after thn same higher ops k) ∧ Below w.heap.size w wr) (fun _ j _ => n - (intOf j).toNat)
  case atStart => exact ⟨0, Nat.zero_le _, rfl, rfl, Below.refl _ _⟩
  case round =>
    obtain ⟨wo, rfl⟩ : ∃ wo : World, wo = wr := ⟨_, rfl⟩
    obtain ⟨k, hk, rfl, rfl, bel⟩ := hrel
    by_cases hlt : k < n
    · obtain ⟨c0, c1, c2, c3, c4, c5, c6, c7, c8⟩ := (hops k hlt).below bel hb
      have hz := bel.size
      have bel1 : Hid (Below w.heap.size w (wo.alloc (.cells (opCells (ops k)).toArray 50))) := bel.alloc bel.size _
      have bx := OpAt.boxed wo (ops k)
      by_cases h1 : (ops k).outcome = 2
      · by_cases h2 : effI (ops k).func (ops k).absent = thn
        · by_cases h3 : (ops k).comp = 0
          · have HM : Hid (mTo after thn same higher ops (k + 1) = mTo after thn same higher ops k) := by simp [Hid, mTo, h3]
            have heff := effectOf_any (ops k) (wo.alloc (.cells (opCells (ops k)).toArray 50))
            rw [h2] at heff
            generalize ops k = o at *
            have hb1 : (o.outcome != 2) = false := by simp [h1]
            have hb3 : (o.comp == 0) = true := by simp [h3]
            have HEFF := hide heff
            have HBX := hide bx
            clear h1 h2 h3 heff hops bx
            go_wp2_with fail
            refine HEFF.out.mono ?_
            rintro e w1 ⟨rfl, hbw⟩
            have BW : Hid (Below w.heap.size w w1) := bel1.out.trans (hbw.mono (by simp; omega))
            obtain ⟨d0, d1, d2, d3, d4, d5, d6, d7, d8⟩ := HBX.out.below hbw (by simp)
            simp only [Nat.zero_add] at d1 d2 d3 d4 d5 d6 d7 d8
            clear HEFF HBX bel1 hbw c0 c1 c2 c3 c4 c5 c6 c7 c8 bel
            go_wp2
            go_roundw
            case rel => exact ⟨k + 1, by omega, by go_num, by rw [HM.out], BW.out⟩
            case measure => simp [intOf]; omega
          · have hm : Hid (mTo after thn same higher ops (k + 1) = if brokenTo after same higher ops (ops k) k = true ∧ (mTo after thn same higher ops k = 0 ∨ (ops k).comp < mTo after thn same higher ops k) then (ops k).comp else mTo after thn same higher ops k) := by
              simp [Hid, mTo, h1, h2, h3]
            obtain ⟨o, hoo⟩ : ∃ o, o = ops k := ⟨_, rfl⟩
            rw [← hoo] at h1 h2 h3 hm bel1 bx c0 c1 c2 c3 c4 c5 c6 c7 c8
            have HO := hide hoo
            have hb1 : (o.outcome != 2) = false := by simp [h1]
            have hb3 : (o.comp == 0) = false := by simp [h3]
            have heff := effectOf_any o (wo.alloc (.cells (opCells o).toArray 50))
            rw [h2] at heff
            have HEFF := hide heff
            have HBX := hide bx
            have HOPS := hide hops
            clear hoo h1 h2 h3 heff hops bx
            go_wp2_with fail
            refine HEFF.out.mono ?_
            rintro e w1 ⟨rfl, hbw⟩
            have hz1 : wo.heap.size + 1 ≤ w1.heap.size := by have := hbw.size; simpa using this
            have belw : Below w.heap.size w w1 := bel1.out.trans (hbw.mono (by simp; omega))
            obtain ⟨d0, d1, d2, d3, d4, d5, d6, d7, d8⟩ := HBX.out.below hbw (by simp)
            simp only [Nat.zero_add] at d1 d2 d3 d4 d5 d6 d7 d8
            clear HEFF HBX bel1 hbw c0 c1 c2 c3 c4 c5 c6 c7 c8 bel
            go_upto_block 2 with fail
            go_cut [14] (fun bk w' => bk = .bool (brokenTo after same higher ops o k) ∧ Below w1.heap.size w1 w')
            case first =>
              have HB := hide belw
              clear belw hm
              go_wp2_with fail
              go_loopw [14, 15] (fun bk i wi => ∃ q : Nat, q ≤ k ∧ i = .int .i64 q ∧ bk = .bool false ∧ brokenTo after same higher ops o q = false ∧ Below w1.heap.size w1 wi) (fun _ i _ => k - (intOf i).toNat)
              case atStart => exact ⟨0, Nat.zero_le _, rfl, rfl, rfl, Below.refl _ _⟩
              case round =>
                obtain ⟨wi, rfl⟩ : ∃ wi : World, wi = wr := ⟨_, rfl⟩
                obtain ⟨q, hq, rfl, rfl, hbq, beli⟩ := hrel
                by_cases hql : q < k
                · have hO := HOPS.out
                  have belq : Below w.heap.size w wi := HB.out.trans (beli.mono HB.out.size)
                  obtain ⟨e, he⟩ : ∃ e, e = ops q := ⟨_, rfl⟩
                  obtain ⟨c0, c1, c2, c3, c4, c5, c6, c7, c8⟩ := he ▸ (hO q (by omega)).below belq hb
                  clear hO
                  have r0 := (beli.cell (p := ⟨wo.heap.size, 0, none⟩) (by show wo.heap.size < _; omega)).trans d0
                  have r2 := (beli.cell (p := ⟨wo.heap.size, 2, none⟩) (by show wo.heap.size < _; omega)).trans d2
                  have r6 := (beli.cell (p := ⟨wo.heap.size, 6, none⟩) (by show wo.heap.size < _; omega)).trans d6
                  have HQ := hide hbq
                  have HEQ := hide he
                  have hzi : wo.heap.size < wi.heap.size := by have := beli.size; omega
                  have beli1 : Hid (Below w1.heap.size w1 (wi.alloc (.cells (opCells e).toArray 50))) := beli.alloc beli.size _
                  have bx := hide (OpAt.boxed wi e)
                  clear he hbq d0 d1 d2 d3 d4 d5 d6 d7 d8 beli belq
                  have hp : Hid (pairB after same higher (ops q) o = (decide (e.outcome = 2) && decide (e.proc = o.proc) && decide (effI e.func e.absent = after) && (!same || decide (e.key = o.key)) && (decide (o.ver < e.ver) || (higher && decide (e.ver = o.ver))))) := by rw [← HEQ.out]; rfl
                  by_cases g1 : e.outcome = 2
                  · have gb1 : (e.outcome != 2) = false := by simp [g1]
                    by_cases g2 : e.proc = o.proc
                    · have gb2 : (e.proc != o.proc) = false := by simp [g2]
                      have heff := hide (effectOf_any e (wi.alloc (.cells (opCells e).toArray 50)))
                      obtain ⟨E, hE⟩ : ∃ E, E = effI e.func e.absent := ⟨_, rfl⟩
                      rw [← hE] at heff hp
                      have G1 := hide g1
                      have G2 := hide g2
                      clear hE g1 g2
                      go_wp2_with fail
                      refine heff.out.mono ?_
                      rintro e' w2 ⟨rfl, hbw⟩
                      have hz2 : wi.heap.size + 1 ≤ w2.heap.size := by have := hbw.size; simpa using this
                      have belw : Below w1.heap.size w1 w2 := beli1.out.trans (hbw.mono (by have := beli1.out.size; exact this))
                      have HW := hide belw
                      obtain ⟨d0, d1, d2, d3, d4, d5, d6, d7, d8⟩ := bx.out.below hbw (by simp)
                      simp only [Nat.zero_add] at d1 d2 d3 d4 d5 d6 d7 d8
                      have bw1 : Below (wo.heap.size + 1) wi w2 := ((Below.refl _ _).alloc (by omega) _).trans (hbw.mono (by simp; omega))
                      have t0 := (bw1.cell (p := ⟨wo.heap.size, 0, none⟩) (by show wo.heap.size < _; omega)).trans r0
                      have t2 := (bw1.cell (p := ⟨wo.heap.size, 2, none⟩) (by show wo.heap.size < _; omega)).trans r2
                      have t6 := (bw1.cell (p := ⟨wo.heap.size, 6, none⟩) (by show wo.heap.size < _; omega)).trans r6
                      clear heff beli1 bx hbw belw bw1 c0 c1 c2 c3 c4 c5 c6 c7 c8 r0 r2 r6 hz2 hzi
                      by_cases g3 : E = after
                      · subst g3
                        go_upto_region 13 with (fail)
                        cases same
                        · go_upto_region 14 with (fail)
                          by_cases g6 : o.ver < e.ver
                          · have G6 := hide g6
                            go_wp2
                            go_meet
                            case rel => exact ⟨by rw [brokenTo_of (by rw [hp.out]; simp [G1.out, G2.out, G6.out]) k hql], HW.out⟩
                          · have G6 := hide g6
                            cases higher
                            · go_wp2
                              go_roundw
                              case rel => exact ⟨q + 1, by omega, by go_num, rfl, brokenTo_no HQ.out (by rw [hp.out]; simp [G6.out]), HW.out⟩
                              case measure => simp [intOf]; omega
                            · by_cases g7 : e.ver = o.ver
                              · have gb7 : (e.ver == o.ver) = true := by simp [g7]
                                have G7 := hide g7
                                clear g7
                                go_wp2
                                go_meet
                                case rel => exact ⟨by rw [brokenTo_of (by rw [hp.out]; simp [G1.out, G2.out, G7.out]) k hql], HW.out⟩
                              · have gb7 : (e.ver == o.ver) = false := by simp [g7]
                                have G7 := hide g7
                                clear g7
                                go_wp2
                                go_roundw
                                case rel => exact ⟨q + 1, by omega, by go_num, rfl, brokenTo_no HQ.out (by rw [hp.out]; simp [G6.out, G7.out]), HW.out⟩
                                case measure => simp [intOf]; omega
                        · by_cases g5 : e.key = o.key
                          · have gb5 := str_eq g5
                            have G5 := hide g5
                            clear g5
                            go_upto_region 14 with (fail)
                            by_cases g6 : o.ver < e.ver
                            · have G6 := hide g6
                              go_wp2
                              go_meet
                              case rel => exact ⟨by rw [brokenTo_of (by rw [hp.out]; simp [G1.out, G2.out, G6.out, G5.out]) k hql], HW.out⟩
                            · have G6 := hide g6
                              cases higher
                              · go_wp2
                                go_roundw
                                case rel => exact ⟨q + 1, by omega, by go_num, rfl, brokenTo_no HQ.out (by rw [hp.out]; simp [G6.out]), HW.out⟩
                                case measure => simp [intOf]; omega
                              · by_cases g7 : e.ver = o.ver
                                · have gb7 : (e.ver == o.ver) = true := by simp [g7]
                                  have G7 := hide g7
                                  clear g7
                                  go_wp2
                                  go_meet
                                  case rel => exact ⟨by rw [brokenTo_of (by rw [hp.out]; simp [G1.out, G2.out, G7.out, G5.out]) k hql], HW.out⟩
                                · have gb7 : (e.ver == o.ver) = false := by simp [g7]
                                  have G7 := hide g7
                                  clear g7
                                  go_wp2
                                  go_roundw
                                  case rel => exact ⟨q + 1, by omega, by go_num, rfl, brokenTo_no HQ.out (by rw [hp.out]; simp [G6.out, G7.out]), HW.out⟩
                                  case measure => simp [intOf]; omega
                          · have gb5 := str_ne g5
                            have G5 := hide g5
                            clear g5
                            go_wp2
                            go_roundw
                            case rel => exact ⟨q + 1, by omega, by go_num, rfl, brokenTo_no HQ.out (by rw [hp.out]; simp [G5.out]), HW.out⟩
                            case measure => simp [intOf]; omega
                      · have gb3 : (E != after) = true := by simp [g3]
                        have G3 := hide g3
                        clear g3
                        go_wp2
                        go_roundw
                        case rel => exact ⟨q + 1, by omega, by go_num, rfl, brokenTo_no HQ.out (by rw [hp.out]; simp [G3.out]), HW.out⟩
                        case measure => simp [intOf]; omega
                    · have gb2 : (e.proc != o.proc) = true := by simp [g2]
                      have G2 := hide g2
                      clear g1 g2 bx
                      go_wp2
                      go_roundw
                      case rel => exact ⟨q + 1, by omega, by go_num, rfl, brokenTo_no HQ.out (by rw [hp.out]; simp [G2.out]), beli1.out⟩
                      case measure => simp [intOf]; omega
                  · have gb1 : (e.outcome != 2) = true := by simp [g1]
                    have G1 := hide g1
                    clear g1 bx
                    go_wp2
                    go_roundw
                    case rel => exact ⟨q + 1, by omega, by go_num, rfl, brokenTo_no HQ.out (by rw [hp.out]; simp [G1.out]), beli1.out⟩
                    case measure => simp [intOf]; omega
                · have : q = k := by omega
                  subst this
                  have HQ := hide hbq
                  clear hbq
                  go_wp2
                  go_meet
                  case rel => exact ⟨by rw [HQ.out], beli⟩
            case rest =>
              obtain ⟨rfl, bel3⟩ := hcut
              have BW : Hid (Below w.heap.size w wc) := belw.trans (bel3.mono belw.size)
              have t5 := (bel3.cell (p := ⟨wo.heap.size, 5, none⟩) (by show wo.heap.size < _; omega)).trans d5
              clear d0 d1 d2 d3 d4 d5 d6 d7 d8 bel3 belw HOPS HO
              generalize brokenTo after same higher ops o k = bb at *
              generalize hbm : mTo after thn same higher ops k = best at *
              clear hbm
              cases bb
              · have HM : Hid (mTo after thn same higher ops (k + 1) = best) := by rw [Hid, hm.out]; simp
                clear hm
                go_wp2
                go_roundw
                case rel => exact ⟨k + 1, by omega, by go_num, by rw [HM.out], BW.out⟩
                case measure => simp [intOf]; omega
              · by_cases g1 : best = 0
                · have HM : Hid (mTo after thn same higher ops (k + 1) = o.comp) := by rw [Hid, hm.out]; simp [g1]
                  clear hm
                  subst g1
                  go_wp2
                  go_roundw
                  case rel => exact ⟨k + 1, by omega, by go_num, by rw [HM.out], BW.out⟩
                  case measure => simp [intOf]; omega
                · have gb1 : (best == 0) = false := by simp [g1]
                  by_cases g2 : o.comp < best
                  · have HM : Hid (mTo after thn same higher ops (k + 1) = o.comp) := by rw [Hid, hm.out]; simp [g2]
                    clear hm g1
                    go_wp2
                    go_roundw
                    case rel => exact ⟨k + 1, by omega, by go_num, by rw [HM.out], BW.out⟩
                    case measure => simp [intOf]; omega
                  · have HM : Hid (mTo after thn same higher ops (k + 1) = best) := by rw [Hid, hm.out]; simp [g1, g2]
                    clear hm g1
                    go_wp2
                    go_roundw
                    case rel => exact ⟨k + 1, by omega, by go_num, by rw [HM.out], BW.out⟩
                    case measure => simp [intOf]; omega
        · have HM : Hid (mTo after thn same higher ops (k + 1) = mTo after thn same higher ops k) := by simp [Hid, mTo, h2]
          have heff := effectOf_any (ops k) (wo.alloc (.cells (opCells (ops k)).toArray 50))
          generalize ops k = o at *
          generalize effI o.func o.absent = E at *
          have hb1 : (o.outcome != 2) = false := by simp [h1]
          have hb2 : (E != thn) = true := by simp [h2]
          have HEFF := hide heff
          clear h1 h2 heff hops bx
          go_wp2_with fail
          refine HEFF.out.mono ?_
          rintro e w1 ⟨rfl, hbw⟩
          have BW : Hid (Below w.heap.size w w1) := bel1.out.trans (hbw.mono (by simp; omega))
          clear HEFF bel1 hbw c0 c1 c2 c3 c4 c5 c6 c7 c8 bel
          go_wp2
          go_roundw
          case rel => exact ⟨k + 1, by omega, by go_num, by rw [HM.out], BW.out⟩
          case measure => simp [intOf]; omega
      · have HM : Hid (mTo after thn same higher ops (k + 1) = mTo after thn same higher ops k) := by simp [Hid, mTo, h1]
        have BW := bel1
        generalize ops k = o at *
        have hb1 : (o.outcome != 2) = true := by simp [h1]
        clear h1 hops bx bel bel1
        go_wp2
        go_roundw
        case rel => exact ⟨k + 1, by omega, by go_num, by rw [HM.out], BW.out⟩
        case measure => simp [intOf]; omega
    · have : k = n := by omega
      subst this
      go_wp2
      go_ret
      exact ⟨rfl, bel⟩

set_option maxRecDepth 100000 in
set_option maxHeartbeats 400000 in
theorem sm_nil (after thn : Int) (same higher : Bool) (ad : Option Addr) (cap : Nat) (ops : Nat → OpR) (w : World) :
    Calls Try.prog 14 #[.int .i64 after, .int .i64 thn, .bool same, .bool higher, .slice ad 0 cap] w fun e w' => e = .returned (.int .i64 (mTo after thn same higher ops 0)) ∧ Below w.heap.size w w' := by
  go_enter Try.func14, Try.ntmps14
  go_wp2
  refine wp_loop_rounds 1 ?_
  rw [rounds_succ]
  go_wp2
  go_ret
  exact ⟨rfl, Below.refl _ _⟩
end Go.Proofs.Qxb6604187a
