import Derived.Test.Qxb6604786aT6
import Derived.Test.Qxb6604786aL2
namespace Go.Proofs.Qxb6604786a
open Go.RowKit

theorem Try.info4 : (Try.prog.info? 4).map (fun i => (i.zero, i.size, i.bytes)) = some (some (.bool false), 1, 1) := by kernel_rfl
theorem Try.info2 : (Try.prog.info? 2).map (fun i => (i.zero, i.size, i.bytes)) = some (some (.int .i64 0), 1, 8) := by kernel_rfl

/-- While the targets are marked. -/
structure TgInv (w wr : World) (n : Nat) (tg : Nat → Bool) (T : Nat → Prop) : Prop where
  bel : Below w.heap.size w wr
  size : wr.heap.size = w.heap.size + 1
  row : wr.rowIs w.heap.size 4 n (fun i => .bool (tg i))
  tg : ∀ u, u < n → (tg u = true ↔ T u)
/-- While the least distances are laid. -/
structure BsInv (w wr : World) (n : Nat) (tg : Nat → Bool) (b : Nat → Int) : Prop where
  bel : Below w.heap.size w wr
  row : wr.rowIs w.heap.size 4 n (fun i => .bool (tg i))
  best : wr.rowIs (w.heap.size + 1) 2 n (fun i => .int .i64 (b i))

theorem TgInv.mark {w wr : World} {n p : Nat} {tg : Nat → Bool} {T T' : Nat → Prop} (h : TgInv w wr n tg T) (hT : ∀ u, T' u ↔ T u ∨ u = p) : TgInv w (wr.setCell ⟨w.heap.size, p, none⟩ (.bool true)) n (fun i => if i = p then true else tg i) T' := by
  refine ⟨h.bel.setCell (Nat.le_refl _) _, by have := h.size; simpa [World.setCell] using this, (h.row.set p (.bool true)).congr fun i _ => ?_, fun u hu => ?_⟩
  · by_cases e : i = p <;> simp [e]
  · rw [hT u]
    by_cases e : u = p
    · simp [e]
    · simp [e, h.tg u hu]
theorem TgInv.skip {w wr : World} {n : Nat} {tg : Nat → Bool} {T T' : Nat → Prop} (h : TgInv w wr n tg T) (hT : ∀ u, T' u ↔ T u) : TgInv w wr n tg T' := ⟨h.bel, h.size, h.row, fun u hu => (h.tg u hu).trans (hT u).symm⟩
theorem TgInv.make {w wr : World} {n : Nat} {tg : Nat → Bool} {T : Nat → Prop} (h : TgInv w wr n tg T) : BsInv w (wr.alloc (.cells (madeCells #[.int .i64 0] n) 2)) n tg (fun _ => 0) := by
  have hr := World.rowIs_made wr (.int .i64 0) n 2
  rw [h.size] at hr
  exact ⟨h.bel.alloc (by rw [h.size]; omega) _, h.row.alloc _, hr⟩
theorem BsInv.set {w wr : World} {n : Nat} {tg : Nat → Bool} {b : Nat → Int} (h : BsInv w wr n tg b) (p : Nat) (x : Int) : BsInv w (wr.setCell ⟨w.heap.size + 1, p, none⟩ (.int .i64 x)) n tg (upd b p x) := by
  refine ⟨h.bel.setCell (by show w.heap.size ≤ w.heap.size + 1; omega) _, h.row.setOther (by show w.heap.size ≠ w.heap.size + 1; omega) _, (h.best.set p (.int .i64 x)).congr fun i _ => ?_⟩
  unfold upd
  by_cases e : i = p <;> simp [e]
theorem BsInv.congr {w wr : World} {n : Nat} {tg : Nat → Bool} {b b' : Nat → Int} (h : BsInv w wr n tg b) (e : ∀ i, i < n → b i = b' i) : BsInv w wr n tg b' := ⟨h.bel, h.row, h.best.congr fun i hi => by rw [e i hi]⟩

/-- The arcs that were looked at: those of the heads below u, and of u those before k. -/
def Seen (start frm : Nat → Int) (u k : Nat) (x p : Nat) : Prop := (x < u ∧ Arc start frm x p) ∨ (x = u ∧ ∃ t : Nat, start u ≤ t ∧ t < k ∧ frm t = (p : Int))

theorem seen_succ {start frm : Nat → Int} {u k p : Nat} (h0 : start u ≤ k) (hp : frm k = (p : Int)) (x y : Nat) : Seen start frm u (k + 1) x y ↔ Seen start frm u k x y ∨ (x = u ∧ y = p) := by
  constructor
  · rintro (h | ⟨rfl, t, h1, h2, h3⟩)
    · exact Or.inl (Or.inl h)
    · rcases Nat.lt_succ_iff_lt_or_eq.1 h2 with h2 | rfl
      · exact Or.inl (Or.inr ⟨rfl, t, h1, h2, h3⟩)
      · right; rw [hp] at h3; exact ⟨rfl, by omega⟩
  · rintro ((h | ⟨rfl, t, h1, h2, h3⟩) | ⟨rfl, rfl⟩)
    · exact Or.inl h
    · exact Or.inr ⟨rfl, t, h1, by omega, h3⟩
    · exact Or.inr ⟨rfl, k, h0, by omega, hp⟩
theorem seen_none {start frm : Nat → Int} {u lo : Nat} (h : start u = (lo : Int)) (x y : Nat) : Seen start frm u lo x y ↔ Seen start frm u 0 x y := by
  constructor
  · rintro (h1 | ⟨rfl, t, h1, h2, h3⟩)
    · exact Or.inl h1
    · omega
  · rintro (h1 | ⟨rfl, t, h1, h2, h3⟩)
    · exact Or.inl h1
    · omega
theorem seen_next {start frm : Nat → Int} {u up : Nat} (h : start (u + 1) = (up : Int)) (x y : Nat) : Seen start frm (u + 1) 0 x y ↔ Seen start frm u up x y := by
  constructor
  · rintro (⟨h1, h2⟩ | ⟨rfl, t, h1, h2, h3⟩)
    · rcases Nat.lt_succ_iff_lt_or_eq.1 h1 with h1 | rfl
      · exact Or.inl ⟨h1, h2⟩
      · obtain ⟨t, h3, h4, h5⟩ := h2
        exact Or.inr ⟨rfl, t, h3, by omega, h5⟩
    · omega
  · rintro (⟨h1, h2⟩ | ⟨rfl, t, h1, h2, h3⟩)
    · exact Or.inl ⟨by omega, h2⟩
    · exact Or.inl ⟨by omega, t, h1, by omega, h3⟩
theorem seen_skip {start frm : Nat → Int} {u : Nat} {d : Nat → Int} (hd : d u < 0) : (∀ x y, Seen start frm u 0 x y → Seen start frm (u + 1) 0 x y) ∧ (∀ x y, Seen start frm (u + 1) 0 x y → Seen start frm u 0 x y ∨ d x < 0) := by
  constructor
  · rintro x y (⟨h1, h2⟩ | ⟨rfl, t, h1, h2, h3⟩)
    · exact Or.inl ⟨by omega, h2⟩
    · omega
  · rintro x y (⟨h1, h2⟩ | ⟨rfl, t, h1, h2, h3⟩)
    · rcases Nat.lt_succ_iff_lt_or_eq.1 h1 with h1 | rfl
      · exact Or.inl (Or.inl ⟨h1, h2⟩)
      · exact Or.inr hd
    · omega
theorem seen_all {start frm : Nat → Int} {n : Nat} (x p : Nat) : Seen start frm n 0 x p ↔ x < n ∧ Arc start frm x p := by
  constructor
  · rintro (h | ⟨rfl, t, h1, h2, h3⟩)
    · exact h
    · omega
  · exact Or.inl
theorem seen_lt {start frm : Nat → Int} {n u k : Nat} (hu : u < n) (x p : Nat) (h : Seen start frm u k x p) : x < n := by
  rcases h with ⟨h, _⟩ | ⟨rfl, _⟩
  · omega
  · exact hu

set_option maxRecDepth 100000 in
set_option maxHeartbeats 1000000 in
theorem char_any (c v : Nat) (hv : v < 2) (ast af an ar av a : Option Addr) (start frm nodes rounds vs d : Nat → Int) (round : Int) (n0 n1 m n : Nat) (w : World) (hcell : w.cell? ⟨c, v, none⟩ = some (.slice a n n))
    (st : IsRow .i64 w ast n0 start) (fr : IsRow .i32 w af n1 frm) (no : IsRow .i32 w an m nodes) (ro : IsRow .i64 w ar m rounds) (va : IsRow .i8 w av m vs) (row : IsRow .i32 w a n d) (hN : Nums start frm nodes vs n0 n1 m n)
    (hD : Dist n (Arc start frm) (Tgt nodes rounds vs round m (v : Int)) d) :
    Calls Try.prog 22 #[.slice ast n0 n0, .slice af n1 n1, .slice an m m, .slice ar m m, .slice av m m, .int .i64 round, .int .i64 (n : Int), .pointer (some ⟨c, 0, none⟩), .int .i64 (v : Int)] w
      fun e w' => e = .returned (.bool true) ∧ Below w.heap.size w w' := by
  obtain ⟨hn, hn0, hn1, hm, slen, sge, mono, tails, heads, vals⟩ := hN
  have hmk1 := run_make_row' (P := Try.prog) 59 4 (.bool false) 1 Try.underlying59 Try.info4 rfl .i64 .i64 n (by omega) (by omega)
  have hmk2 := run_make_row' (P := Try.prog) 60 2 (.int .i64 0) 8 Try.underlying60 Try.info2 rfl .i64 .i64 n (by omega) (by omega)
  have HSG := hide sge
  have HMO := hide mono
  have HTA := hide tails
  have HHE := hide heads
  have HVA := hide vals
  have HST := hide st
  have HFR := hide fr
  have HNO := hide no
  have HRO := hide ro
  have HVS := hide va
  have HRW := hide row
  have HD := hide hD
  clear sge mono tails heads vals st fr no ro va row hD
  have T0 : Hid (TgInv w (w.alloc (.cells (madeCells #[.bool false] n) 4)) n (fun _ => false) (Tgt nodes rounds vs round 0 (v : Int))) :=
    ⟨(Below.refl _ _).alloc (Nat.le_refl _) _, by simp, World.rowIs_made w (.bool false) n 4, fun u _ => ⟨(fun h => by cases h), fun ⟨i, h0, _⟩ => absurd h0 (Nat.not_lt_zero _)⟩⟩
  go_enter Try.func22, Try.ntmps22
  go_wp2
  go_loopw [21] (fun i wr => ∃ (j : Nat) (tg : Nat → Bool), j ≤ m ∧ i = .int .i64 j ∧ TgInv w wr n tg (Tgt nodes rounds vs round j (v : Int))) (fun i _ => m - (intOf i).toNat)
  case atStart => exact ⟨0, fun _ => false, Nat.zero_le _, rfl, T0.out⟩
  case round =>
    obtain ⟨j, tg, hj, rfl, ti⟩ := hrel
    clear T0 hmk1 hcell
    by_cases hjm : j < m
    · obtain ⟨b1, o1, rfl, hb1, c1⟩ := HNO.out (by omega)
      obtain ⟨b2, o2, rfl, hb2, c2⟩ := HRO.out (by omega)
      obtain ⟨b3, o3, rfl, hb3, c3⟩ := HVS.out (by omega)
      have p1 := (ti.bel.cell (p := ⟨b1, o1 + j, none⟩) hb1).trans (c1 j hjm)
      have p2 := (ti.bel.cell (p := ⟨b2, o2 + j, none⟩) hb2).trans (c2 j hjm)
      have p3 := (ti.bel.cell (p := ⟨b3, o3 + j, none⟩) hb3).trans (c3 j hjm)
      obtain ⟨p, hp⟩ : ∃ p : Nat, nodes j = (p : Int) := ⟨(nodes j).toNat, by have := HHE.out j hjm; omega⟩
      have hpn : p < n := by have := HHE.out j hjm; omega
      obtain ⟨hy1, hy2⟩ := HVA.out j hjm
      rw [hp] at p1
      obtain ⟨r, hr⟩ : ∃ r, r = rounds j := ⟨_, rfl⟩
      obtain ⟨y, hy⟩ : ∃ y, y = vs j := ⟨_, rfl⟩
      rw [← hr] at p2
      rw [← hy] at p3 hy1 hy2
      have q0 := ti.row.cell hpn
      have f0 := ti.row.frozen p
      have HTI := hide ti
      clear ti c1 c2 c3 hmk2
      by_cases e1 : r = round
      case neg =>
        have b1 : (r == round) = false := by simp [e1]
        have R := hide (HTI.out.skip fun u => tgt_skip (v := (v : Int)) (fun h => e1 (hr.trans h.1)) u)
        clear e1 HTI hr hy hp
        go_wp2
        go_roundw
        case rel => exact ⟨j + 1, tg, by omega, by go_num, R.out⟩
        case measure => simp [intOf]; omega
      have b1 : (r == round) = true := by simp [e1]
      by_cases e2 : y = (v : Int)
      case neg =>
        have b2 : (y == (v : Int)) = false := by simp [e2]
        have R := hide (HTI.out.skip fun u => tgt_skip (v := (v : Int)) (fun h => e2 (hy.trans h.2)) u)
        clear e1 e2 HTI hr hy hp
        go_wp2
        go_roundw
        case rel => exact ⟨j + 1, tg, by omega, by go_num, R.out⟩
        case measure => simp [intOf]; omega
      have b2 : (y == (v : Int)) = true := by simp [e2]
      have R := hide (HTI.out.mark (tgt_succ (hr.symm.trans e1) (hy.symm.trans e2) hp))
      clear e1 e2 HTI hr hy hp
      go_wp2
      go_roundw
      case rel => exact ⟨j + 1, _, by omega, by go_num, R.out⟩
      case measure => simp [intOf]; omega
    · obtain rfl : j = m := by omega
      obtain ⟨w1, rfl⟩ : ∃ w1 : World, w1 = wr := ⟨_, rfl⟩
      have B0 := hide (ti.make.congr (b' := fillTo (fun _ => 0) 0) fun i _ => fill_zero _ _)
      have HTG := hide ti.tg
      have hz := hide ti.size
      clear ti HNO HRO HVS HVA HHE
      go_upto_region 11 with (fail)
      rw [hz.out]
      obtain ⟨w2, hw2⟩ : ∃ w2, w2 = w1.alloc (.cells (madeCells #[.int .i64 0] n) 2) := ⟨_, rfl⟩
      rw [← hw2]
      rw [← hw2] at B0
      clear hw2 hmk2 hz
      go_wp2
      go_loopw [23] (fun i wr => ∃ k : Nat, k ≤ n ∧ i = .int .i64 k ∧ BsInv w wr n tg (fillTo (fun _ => 0) k)) (fun i _ => n - (intOf i).toNat)
      case atStart => exact ⟨0, Nat.zero_le _, rfl, B0.out⟩
      case round =>
        obtain ⟨k, hk, rfl, bi⟩ := hrel
        clear B0
        by_cases hlt : k < n
        · have q0 := bi.best.cell hlt
          have f0 := bi.best.frozen k
          have R := hide ((bi.set k (-1)).congr fun i _ => fill_step _ _ _)
          clear bi
          go_wp2
          go_roundw
          case rel => exact ⟨k + 1, by omega, by go_num, R.out⟩
          case measure => simp [intOf]; omega
        · obtain rfl : k = n := by omega
          obtain ⟨w3, rfl⟩ : ∃ w3 : World, w3 = wr := ⟨_, rfl⟩
          have B0 := hide bi
          have BB : Hid (BestOf k (Seen start frm 0 0) d (fillTo (fun _ => 0) k)) := BestOf.start (fun p hp => fill_all _ hp) (fun x p hx => by
            rcases hx with ⟨h, _⟩ | ⟨_, t, _, h, _⟩
            · exact absurd h (Nat.not_lt_zero _)
            · exact absurd h (Nat.not_lt_zero _))
          clear bi
          generalize fillTo (fun _ => 0) k = bb0 at *
          go_wp2
          go_loopw [24] (fun i wr => ∃ (u : Nat) (b : Nat → Int), u ≤ k ∧ i = .int .i64 u ∧ BsInv w wr k tg b ∧ BestOf k (Seen start frm u 0) d b) (fun i _ => k - (intOf i).toNat)
          case atStart => exact ⟨0, bb0, Nat.zero_le _, rfl, B0.out, BB.out⟩
          case round =>
            obtain ⟨u, b, hu, rfl, bi, bo⟩ := hrel
            clear B0 BB
            obtain ⟨w4, rfl⟩ : ∃ w4 : World, w4 = wr := ⟨_, rfl⟩
            by_cases hlt : u < k
            · obtain ⟨br, orr, rfl, hbr, cr⟩ := HRW.out (by omega)
              have pr := (bi.bel.cell (p := ⟨br, orr + u, none⟩) hbr).trans (cr u hlt)
              have hd1 := HD.out.ge u hlt
              have hd2 := HD.out.le u hlt
              obtain ⟨du, hdu⟩ : ∃ du, du = d u := ⟨_, rfl⟩
              rw [← hdu] at pr hd1 hd2
              by_cases hneg : du < 0
              · have BO : Hid (BestOf k (Seen start frm (u + 1) 0) d b) := by
                  obtain ⟨s1, s2⟩ := seen_skip (start := start) (frm := frm) (u := u) (d := d) (by omega)
                  exact bo.more s1 s2
                have BI := hide bi
                clear bi bo hdu cr
                go_wp2
                go_roundw
                case rel => exact ⟨u + 1, b, by omega, by go_num, BI.out, BO.out⟩
                case measure => simp [intOf]; omega
              · obtain ⟨bs, os, rfl, hbs, cs⟩ := HST.out (by omega)
                have p0 := (bi.bel.cell (p := ⟨bs, os + u, none⟩) hbs).trans (cs u (by omega))
                have p1 := (bi.bel.cell (p := ⟨bs, os + (u + 1), none⟩) hbs).trans (cs (u + 1) (by omega))
                obtain ⟨lo, hlo⟩ : ∃ lo : Nat, start u = (lo : Int) := ⟨(start u).toNat, by have := HSG.out u (by omega); omega⟩
                obtain ⟨up, hup⟩ : ∃ up : Nat, start (u + 1) = (up : Int) := ⟨(start (u + 1)).toNat, by have := HSG.out (u + 1) (by omega); omega⟩
                have hlu : lo ≤ up := by have := HMO.out u hlt; omega
                have hun1 : up ≤ n1 := by have := (HSG.out (u + 1) (by omega)).2; omega
                rw [hlo] at p0
                rw [hup] at p1
                have HLO := hide hlo
                have HUP := hide hup
                have BI := hide bi
                have BO := hide (bo.congr (seen_none hlo))
                have HCS := hide (cs (u + 1) (by omega))
                rw [hup] at HCS
                have HDU := hide hdu
                clear bi bo hlo hup cs cr hdu
                go_wp2
                go_loopw [26] (fun i wr => ∃ (t : Nat) (b : Nat → Int), lo ≤ t ∧ t ≤ up ∧ i = .int .i64 t ∧ BsInv w wr k tg b ∧ BestOf k (Seen start frm u t) d b) (fun i _ => up - (intOf i).toNat)
                case atStart => exact ⟨lo, b, Nat.le_refl _, hlu, rfl, BI.out, BO.out⟩
                case round =>
                  clear BI BO p1 p0 pr
                  obtain ⟨t, b, hlt1, ht, rfl, bi, bo⟩ := hrel
                  have p1 := (bi.bel.cell (p := ⟨bs, os + (u + 1), none⟩) hbs).trans HCS.out
                  by_cases htl : t < up
                  · obtain ⟨bfm, ofs, rfl, hbf, cf⟩ := HFR.out (by omega)
                    have hta := HTA.out u hlt t (by rw [HLO.out]; omega) (by rw [HUP.out]; omega)
                    obtain ⟨p, hp⟩ : ∃ p : Nat, frm t = (p : Int) := ⟨(frm t).toNat, by omega⟩
                    have hpk : p < k := by omega
                    have p2 := (bi.bel.cell (p := ⟨bfm, ofs + t, none⟩) hbf).trans (cf t (by omega))
                    rw [hp] at p2
                    have q0 := bi.best.cell hpk
                    have f0 := bi.best.frozen p
                    have hss := hide (seen_succ (start := start) (u := u) (by rw [HLO.out]; omega) hp)
                    obtain ⟨bp, hbp⟩ : ∃ bp, bp = b p := ⟨_, rfl⟩
                    rw [← hbp] at q0
                    by_cases e1 : bp < 0
                    · have R := hide (bi.set p du)
                      have BO := hide (bo.take (by rw [← HDU.out]; omega) (Or.inl (by omega)) hss.out)
                      rw [← HDU.out] at BO
                      clear bi bo cf hta hp hbp
                      go_wp2
                      go_roundw
                      case rel => exact ⟨t + 1, _, by omega, by omega, by go_num, R.out, BO.out⟩
                      case measure => simp [intOf]; omega
                    · by_cases e2 : du < bp
                      · have R := hide (bi.set p du)
                        have BO := hide (bo.take (by rw [← HDU.out]; omega) (Or.inr (by rw [← HDU.out]; omega)) hss.out)
                        rw [← HDU.out] at BO
                        clear bi bo cf hta hp hbp
                        go_wp2
                        go_roundw
                        case rel => exact ⟨t + 1, _, by omega, by omega, by go_num, R.out, BO.out⟩
                        case measure => simp [intOf]; omega
                      · have R := hide bi
                        have BO := hide (bo.leave (by omega) (by rw [← HDU.out]; omega) hss.out)
                        clear bi bo cf hta hp hbp
                        go_wp2
                        go_roundw
                        case rel => exact ⟨t + 1, _, by omega, by omega, by go_num, R.out, BO.out⟩
                        case measure => simp [intOf]; omega
                  · obtain rfl : t = up := by omega
                    have R := hide bi
                    have BO := hide (bo.congr (seen_next HUP.out))
                    clear bi bo
                    go_wp2
                    go_roundw
                    case rel => exact ⟨u + 1, b, by omega, by go_num, R.out, BO.out⟩
                    case measure => simp [intOf]; omega
            · obtain rfl : u = k := by omega
              have R := hide bi
              have BO := hide bo
              have HBD : Hid (∀ p, p < u → -1 ≤ b p ∧ b p ≤ u) := fun p hp => bo.bound HD.out (fun x p hx => ((seen_all x p).1 hx).1) hp
              clear bi bo
              go_wp2
              go_loop [28] (fun i => ∃ t : Nat, t ≤ u ∧ i = .int .i64 t) (fun i => u - (intOf i).toNat)
              case atStart => exact ⟨0, Nat.zero_le _, rfl⟩
              case round =>
                obtain ⟨t, ht, rfl⟩ := hrel
                by_cases hlt' : t < u
                · obtain ⟨br, orr, rfl, hbr, cr⟩ := HRW.out (by omega)
                  have pr := (R.out.bel.cell (p := ⟨br, orr + t, none⟩) hbr).trans (cr t hlt')
                  have hd1 := HD.out.ge t hlt'
                  have hd2 := HD.out.le t hlt'
                  have q0 := R.out.best.cell hlt'
                  have q1 := R.out.row.cell hlt'
                  obtain ⟨hb1, hb2⟩ := HBD.out t hlt'
                  obtain ⟨du, hdu⟩ : ∃ du, du = d t := ⟨_, rfl⟩
                  obtain ⟨bp, hbp⟩ : ∃ bp, bp = b t := ⟨_, rfl⟩
                  rw [← hdu] at pr hd1 hd2
                  rw [← hbp] at q0 hb1 hb2
                  cases htg : tg t with
                  | true =>
                    rw [htg] at q1
                    have e : du = 0 := by rw [hdu]; exact HD.out.tgt t hlt' ((HTG.out t hlt').1 htg)
                    subst e
                    clear hdu hbp htg cr
                    go_wp2
                    go_round
                    case rel => exact ⟨t + 1, by omega, by go_num⟩
                    case measure => simp [intOf]; omega
                  | false =>
                    rw [htg] at q1
                    have hT : ¬ Tgt nodes rounds vs round j (v : Int) t := fun h => by
                      rw [(HTG.out t hlt').2 h] at htg
                      cases htg
                    by_cases hneg : bp < 0
                    · have e : du = -1 := by
                        rw [hdu]
                        exact BO.out.none HD.out (fun x p h1 h2 => (seen_all x p).2 ⟨h1, h2⟩) hlt' hT (by omega)
                      subst e
                      clear hdu hbp htg cr hT
                      go_wp2
                      go_round
                      case rel => exact ⟨t + 1, by omega, by go_num⟩
                      case measure => simp [intOf]; omega
                    · have e : du = bp + 1 := by
                        rw [hdu, hbp]
                        exact BO.out.some HD.out seen_all hlt' hT (by omega)
                      subst e
                      clear hdu hbp htg cr hT
                      go_wp2
                      go_round
                      case rel => exact ⟨t + 1, by omega, by go_num⟩
                      case measure => simp [intOf]; omega
                · go_wp2
                  go_ret
                  exact ⟨rfl, R.out.bel⟩
end Go.Proofs.Qxb6604786a
