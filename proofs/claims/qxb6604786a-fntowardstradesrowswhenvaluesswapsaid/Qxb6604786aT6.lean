import Derived.Test.Qxb6604786aT5
namespace Go.Proofs.Qxb6604786a
open Go.RowKit

/-- p is a tail of an arc to u. -/
def Arc (start frm : Nat → Int) (u p : Nat) : Prop := ∃ k : Nat, start u ≤ k ∧ (k : Int) < start (u + 1) ∧ frm k = (p : Int)
/-- u is a state where one of the first m outputs of this round carries v. -/
def Tgt (nodes rounds vs : Nat → Int) (round : Int) (m : Nat) (v : Int) (u : Nat) : Prop := ∃ i, i < m ∧ rounds i = round ∧ vs i = v ∧ nodes i = (u : Int)

/-- The numbers that came in are fine. -/
structure Nums (start frm nodes vs : Nat → Int) (n0 n1 m n : Nat) : Prop where
  hn : n ≤ 65536
  hn0 : n0 ≤ 65536
  hn1 : n1 ≤ 65536
  hm : m ≤ 65536
  slen : n + 1 ≤ n0
  sge : ∀ u, u ≤ n → 0 ≤ start u ∧ start u ≤ n1
  mono : ∀ u, u < n → start u ≤ start (u + 1)
  tails : ∀ u, u < n → ∀ k : Nat, start u ≤ k → (k : Int) < start (u + 1) → 0 ≤ frm k ∧ frm k < n
  heads : ∀ i, i < m → 0 ≤ nodes i ∧ nodes i < n
  vals : ∀ i, i < m → -128 ≤ vs i ∧ vs i ≤ 127

/-- One output ast it lies in b.values. -/
structure ValAt (w : World) (vb i : Nat) (x r y : Int) : Prop where
  c0 : w.cell? ⟨vb, i * 3, none⟩ = some (.int .i32 x)
  c1 : w.cell? ⟨vb, i * 3 + 1, none⟩ = some (.int .i64 r)
  c2 : w.cell? ⟨vb, i * 3 + 2, none⟩ = some (.int .i8 y)

/-- What lies in the memory at the call of towards; none of it lies in a row of dist (D). -/
structure Scene (D : Nat → Prop) (w : World) (bb c vb : Nat) (ast af a0 a1 : Option Addr) (start frm nodes rounds vs : Nat → Int) (n0 n1 m n : Nat) : Prop where
  vals : w.cell? ⟨bb, 1, none⟩ = some (.slice (some ⟨vb, 0, none⟩) m m)
  d0 : w.cell? ⟨c, 0, none⟩ = some (.slice a0 n n)
  d1 : w.cell? ⟨c, 1, none⟩ = some (.slice a1 n n)
  st : IsRow .i64 w ast n0 start
  fr : IsRow .i32 w af n1 frm
  va : ∀ i, i < m → ValAt w vb i (nodes i) (rounds i) (vs i)
  nb : ¬ D bb
  nc : ¬ D c
  nv : ¬ D vb
  ns : ∀ p, ast = some p → ¬ D p.block
  nf : ∀ p, af = some p → ¬ D p.block
  in0 : ∀ p, a0 = some p → D p.block ∧ p.block < w.heap.size
  in1 : ∀ p, a1 = some p → D p.block ∧ p.block < w.heap.size
  apart : ∀ p q, a0 = some p → a1 = some q → p.block ≠ q.block

section
variable {D : Nat → Prop} {w w' : World} {bb c vb : Nat} {ast af a0 a1 : Option Addr} {start frm nodes rounds vs : Nat → Int} {n0 n1 m n : Nat}
theorem Scene.kept (h : Scene D w bb c vb ast af a0 a1 start frm nodes rounds vs n0 n1 m n) (hk : Kept D w w') : Scene D w' bb c vb ast af a0 a1 start frm nodes rounds vs n0 n1 m n := by
  have lt : ∀ {p : Addr} {v : Value}, w.cell? p = some v → p.block < w.heap.size := fun hv => World.block_lt_of_cell? w _ hv
  have cell : ∀ {p : Addr} {v : Value}, w.cell? p = some v → ¬ D p.block → w'.cell? p = some v := fun hv hd => (hk.cell (lt hv) hd).trans hv
  refine ⟨cell h.vals h.nb, cell h.d0 h.nc, cell h.d1 h.nc, h.st.kept hk h.ns, h.fr.kept hk h.nf, fun i hi => ?_, h.nb, h.nc, h.nv, h.ns, h.nf, fun p hp => ⟨(h.in0 p hp).1, Nat.lt_of_lt_of_le (h.in0 p hp).2 hk.size⟩, fun p hp => ⟨(h.in1 p hp).1, Nat.lt_of_lt_of_le (h.in1 p hp).2 hk.size⟩, h.apart⟩
  obtain ⟨e0, e1, e2⟩ := h.va i hi
  exact ⟨cell e0 h.nv, cell e1 h.nv, cell e2 h.nv⟩
end

/-- The two rows, one behind the other. -/
def rowOf (a0 a1 : Option Addr) (v : Nat) : Option Addr := if v = 0 then a0 else a1

/-- What towards keeps from row to row. -/
structure OutInv (D : Nat → Prop) (G : Nat → Nat → Prop) (T : Nat → Nat → Prop) (W wr : World) (a0 a1 : Option Addr) (n v : Nat) (q : List Nat) (qa : Option Addr) (qc : Nat) : Prop where
  kept : Kept D W wr
  own : wr.ownsRow W.heap.size 21 1 (.slice qa q.length qc) q.length (qcells q)
  row : ∀ j, j < 2 → ∃ d, OwnRow 21 .i32 wr (rowOf a0 a1 j) n d ∧ (j < v → Dist n G (T j) d)

theorem OutInv.begin {D : Nat → Prop} {G : Nat → Nat → Prop} {T : Nat → Nat → Prop} {W wr : World} {bb c vb : Nat} {ast af a0 a1 : Option Addr} {start frm nodes rounds vs : Nat → Int} {n0 n1 m n v : Nat} {q : List Nat} {qa : Option Addr} {qc : Nat}
    (h : OutInv D G T W wr a0 a1 n v q qa qc) (hS : Scene D W bb c vb ast af a0 a1 start frm nodes rounds vs n0 n1 m n) (hv : v < 2) : ∃ d, RowInv D W wr wr (rowOf a0 a1 v) (rowOf a0 a1 (1 - v)) n d q qa qc := by
  obtain ⟨d, hr, _⟩ := h.row v hv
  have h01 : v = 0 ∨ v = 1 := by omega
  refine ⟨d, h.kept, ?_, ?_, ?_, hr, h.own⟩
  · rcases h01 with rfl | rfl
    · exact hS.in0
    · exact hS.in1
  · rcases h01 with rfl | rfl
    · exact hS.apart
    · exact fun p p' hp hp' e => hS.apart p' p hp' hp e.symm
  · rcases h01 with rfl | rfl
    · exact fun p hp => ⟨(hS.in1 p hp).2, rfl⟩
    · exact fun p hp => ⟨(hS.in0 p hp).2, rfl⟩

theorem OutInv.next {D : Nat → Prop} {G : Nat → Nat → Prop} {T : Nat → Nat → Prop} {W wo wr : World} {a0 a1 : Option Addr} {n v : Nat} {q q' : List Nat} {qa qa' : Option Addr} {qc qc' : Nat} {d : Nat → Int}
    (h : OutInv D G T W wo a0 a1 n v q qa qc) (hv : v < 2) (hr : RowInv D W wo wr (rowOf a0 a1 v) (rowOf a0 a1 (1 - v)) n d q' qa' qc') (hd : Dist n G (T v) d) : OutInv D G T W wr a0 a1 n (v + 1) q' qa' qc' := by
  refine ⟨hr.kept, hr.own, fun j hj => ?_⟩
  by_cases e : j = v
  · subst e
    exact ⟨d, hr.row, fun _ => hd⟩
  · have ej : j = 1 - v := by omega
    obtain ⟨d', h1, h2⟩ := h.row j hj
    refine ⟨d', h1.of_block fun p hp _ => ?_, fun hjv => h2 (by omega)⟩
    rw [ej] at hp
    exact (hr.oth p hp).2

/-- WHAT TOWARDS LEAVES. -/
structure Done (D : Nat → Prop) (G : Nat → Nat → Prop) (T : Nat → Nat → Prop) (w w' : World) (a0 a1 : Option Addr) (n : Nat) : Prop where
  kept : Kept D w w'
  r0 : ∃ d, OwnRow 21 .i32 w' a0 n d ∧ Dist n G (T 0) d
  r1 : ∃ d, OwnRow 21 .i32 w' a1 n d ∧ Dist n G (T 1) d

/-- The world behind the box that the graph is laid into. -/
structure Boxed (w W : World) (ast af : Option Addr) (n0 c0 n1 c1 : Nat) : Prop where
  bel : Below w.heap.size w W
  b0 : W.cell? ⟨w.heap.size, 0, none⟩ = some (.slice ast n0 c0)
  b1 : W.cell? ⟨w.heap.size, 1, none⟩ = some (.slice af n1 c1)
  lt : w.heap.size < W.heap.size
theorem Boxed.start (w : World) (ast af : Option Addr) (n0 c0 n1 c1 : Nat) (t : TypeId) : Boxed w (w.alloc (.cells #[.slice ast n0 c0, .slice af n1 c1] t)) ast af n0 c0 n1 c1 := by
  have hb := heap_alloc_new w (.cells #[.slice ast n0 c0, .slice af n1 c1] t)
  refine ⟨(Below.refl _ _).alloc (Nat.le_refl _) _, ?_, ?_, by simp⟩ <;> (simp only [World.cell?, hb]; rfl)

theorem stand {p : Prop} (h : Hid p) : p := h
theorem sliced_zero (a : Option Addr) (h m s : Nat) : sliced a 0 h m s = .slice a h m := by
  unfold sliced
  have e : ∀ x : Addr, x.add 0 = x := fun x => by simp [Addr.add]
  cases a with
  | none => simp
  | some x => simp [e]

/-- The copy of an output that a round looks at. -/
structure OutAt (w : World) (b : Nat) (p : Nat) (r y : Int) : Prop where
  c0 : w.cell? ⟨b, 0, none⟩ = some (.int .i32 (p : Int))
  c1 : w.cell? ⟨b, 1, none⟩ = some (.int .i64 r)
  c2 : w.cell? ⟨b, 2, none⟩ = some (.int .i8 y)
theorem OutAt.start (w : World) (p : Nat) (r y : Int) (t : TypeId) : OutAt (w.alloc (.cells #[.int .i32 (p : Int), .int .i64 r, .int .i8 y] t)) w.heap.size p r y := by
  have hb := heap_alloc_new w (.cells #[.int .i32 (p : Int), .int .i64 r, .int .i8 y] t)
  refine ⟨?_, ?_, ?_⟩ <;> (simp only [World.cell?, hb]; rfl)

theorem news_one (w : World) (p : Nat) (t : TypeId) (j : Nat) (u : Value) (h : [Value.int .i32 (p : Int)][j]? = some u) : (w.alloc (.cells #[.int .i32 (p : Int)] t)).cell? ((⟨w.heap.size, 0, none⟩ : Addr).add j) = some u :=
  World.news_of_block (heap_alloc_new w (.cells #[.int .i32 (p : Int)] t)) j u (by simpa using h)
theorem one_one (p : Nat) : ∀ u ∈ [Value.int .i32 (p : Int)], u.oneCell' = true := fun u hu => by simp at hu; subst hu; rfl

theorem tgt_succ {nodes rounds vs : Nat → Int} {round v : Int} {k p : Nat} (h1 : rounds k = round) (h2 : vs k = v) (h3 : nodes k = (p : Int)) (u : Nat) : Tgt nodes rounds vs round (k + 1) v u ↔ Tgt nodes rounds vs round k v u ∨ u = p := by
  constructor
  · rintro ⟨i, hi, e1, e2, e3⟩
    rcases Nat.lt_succ_iff_lt_or_eq.1 hi with hi | rfl
    · exact Or.inl ⟨i, hi, e1, e2, e3⟩
    · right; rw [h3] at e3; omega
  · rintro (⟨i, hi, e⟩ | rfl)
    · exact ⟨i, by omega, e⟩
    · exact ⟨k, by omega, h1, h2, h3⟩
theorem tgt_skip {nodes rounds vs : Nat → Int} {round v : Int} {k : Nat} (h : ¬ (rounds k = round ∧ vs k = v)) (u : Nat) : Tgt nodes rounds vs round (k + 1) v u ↔ Tgt nodes rounds vs round k v u := by
  constructor
  · rintro ⟨i, hi, e1, e2, e3⟩
    rcases Nat.lt_succ_iff_lt_or_eq.1 hi with hi | rfl
    · exact ⟨i, hi, e1, e2, e3⟩
    · exact absurd ⟨e1, e2⟩ h
  · rintro ⟨i, hi, e⟩
    exact ⟨i, by omega, e⟩

theorem Bfs.at {n : Nat} {G : Nat → Nat → Prop} {T : Nat → Prop} {d : Nat → Int} {q : List Nat} {h : Nat} {seen : Nat → Prop} (b : Bfs n G T d q h seen) {u : Nat} (hu : q[h]? = some u) : u < n ∧ 0 ≤ d u ∧ d u ≤ n ∧ h < n := by
  obtain ⟨hh, rfl⟩ := List.getElem?_eq_some_iff.1 hu
  have h1 := b.bd h hh
  have h2 := b.len
  exact ⟨b.lt _ (List.getElem_mem hh), b.mem _ (List.getElem_mem hh), by omega, by omega⟩

/-- The first k cells are -1. -/
def fillTo (d : Nat → Int) (k : Nat) : Nat → Int := fun j => if j < k then -1 else d j
theorem fill_zero (d : Nat → Int) (i : Nat) : d i = fillTo d 0 i := (if_neg (Nat.not_lt_zero _)).symm
theorem fill_step (d : Nat → Int) (k i : Nat) : upd (fillTo d k) k (-1) i = fillTo d (k + 1) i := by
  unfold upd fillTo
  by_cases e1 : i = k
  · rw [if_pos e1, if_pos (by omega)]
  · rw [if_neg e1]
    by_cases e2 : i < k
    · rw [if_pos e2, if_pos (by omega)]
    · rw [if_neg e2, if_neg (by omega)]
theorem fill_all (d : Nat → Int) {k i : Nat} (h : i < k) : fillTo d k i = -1 := if_pos h

attribute [local go_sem] World.cell?_alloc_some sliced_zero

set_option maxRecDepth 100000 in
set_option maxHeartbeats 1000000 in
theorem towards_any (D : Nat → Prop) (bb c vb : Nat) (ast af a0 a1 : Option Addr) (start frm nodes rounds vs : Nat → Int) (round : Int) (n0 n1 m n : Nat) (w : World) (hD : ∀ k, D k → k < w.heap.size) (hS : Scene D w bb c vb ast af a0 a1 start frm nodes rounds vs n0 n1 m n) (hN : Nums start frm nodes vs n0 n1 m n)
    (h0 : ∃ d, OwnRow 21 .i32 w a0 n d) (h1 : ∃ d, OwnRow 21 .i32 w a1 n d) (G : Nat → Nat → Prop) (T : Nat → Nat → Prop) (hG : G = Arc start frm) (hT : T = fun v : Nat => Tgt nodes rounds vs round m (v : Int)) :
    Calls Try.prog 27 #[.pointer (some ⟨bb, 0, none⟩), .agg #[.slice ast n0 n0, .slice af n1 n1], .int .i64 round, .pointer (some ⟨c, 0, none⟩)] w
      fun e w' => e = .returned (.tuple #[]) ∧ Done D G T w w' a0 a1 n := by
  obtain ⟨hn, hn0, hn1, hm, slen, sge, mono, tails, heads, vals⟩ := hN
  have HSG := hide sge
  have HMO := hide mono
  have HTA := hide tails
  have HHE := hide heads
  have HVA := hide vals
  have HS0 := hide hS
  have H0 := hide h0
  have H1 := hide h1
  clear sge mono tails heads vals hS h0 h1
  go_enter Try.func27, Try.ntmps27
  go_upto_region 1 with (fail)
  obtain ⟨i0, hi, hz0, hz1, hz2⟩ := info_parts Try.info21
  obtain ⟨W, hW, BX⟩ : ∃ W, W = w.alloc (.cells #[.slice ast n0 n0, .slice af n1 n1] 51) ∧ Boxed w W ast af n0 n0 n1 n1 := ⟨_, rfl, Boxed.start w ast af n0 n0 n1 n1 51⟩
  rw [← hW]
  have HBX := hide BX
  have KW : Hid (Kept D w W) := Kept.of_below BX.bel
  have HS := hide (HS0.out.kept KW.out)
  have HNB : Hid (¬ D w.heap.size) := fun h => Nat.lt_irrefl _ (hD _ h)
  have INV0 : Hid (OutInv D G T W W a0 a1 n 0 [] none 0) := by
    refine ⟨Kept.refl _ _, World.ownsRow_nil _ _ _ _, fun j hj => ?_⟩
    rcases (by omega : j = 0 ∨ j = 1) with rfl | rfl
    · obtain ⟨d, hd⟩ := H0.out
      exact ⟨d, hd.below BX.bel, fun h => absurd h (Nat.not_lt_zero _)⟩
    · obtain ⟨d, hd⟩ := H1.out
      exact ⟨d, hd.below BX.bel, fun h => absurd h (Nat.not_lt_zero _)⟩
  have HG := hide hG
  have HT := hide hT
  clear hW BX HS0 H0 H1 hG hT hD
  go_wp2
  go_loopw [8, 20] (fun s i wr => ∃ (v : Nat) (q : List Nat) (qa : Option Addr) (qc : Nat), v ≤ 2 ∧ i = .int .i64 v ∧ s = .slice qa q.length qc ∧ OutInv D G T W wr a0 a1 n v q qa qc) (fun _ i _ => 2 - (intOf i).toNat)
  case atStart => exact ⟨0, [], none, 0, by omega, rfl, rfl, INV0.out⟩
  case round =>
    obtain ⟨v, q0, qa0, qc0, hv, rfl, rfl, oinv⟩ := hrel
    clear INV0
    obtain ⟨wo, rfl⟩ : ∃ wo : World, wo = wr := ⟨_, rfl⟩
    by_cases hlt : v < 2
    · obtain ⟨dd0, rinv⟩ := oinv.begin HS.out hlt
      have hcell : wo.cell? ⟨c, v, none⟩ = some (.slice (rowOf a0 a1 v) n n) := by
        have sc := HS.out.kept oinv.kept
        rcases (by omega : v = 0 ∨ v = 1) with rfl | rfl
        · exact sc.d0
        · exact sc.d1
      have ON : Hid (∀ {wr : World} {q' : List Nat} {qa' : Option Addr} {qc' : Nat} {d : Nat → Int}, RowInv D W wo wr (rowOf a0 a1 v) (rowOf a0 a1 (1 - v)) n d q' qa' qc' → Dist n G (T v) d → OutInv D G T W wr a0 a1 n (v + 1) q' qa' qc') := fun h1 h2 => oinv.next hlt h1 h2
      generalize rowOf a0 a1 v = a at *
      generalize rowOf a0 a1 (1 - v) = ao at *
      clear oinv
      go_upto_region 4 with (fail)
      go_quiet (fail)
      have RI : Hid (RowInv D W wo (wo.drewN nq) a ao n dd0 q0 qa0 qc0) := rinv.drewN nq
      clear rinv hcell
      have hdv : decide ((v : Int) < 2) = true := by simp; omega
      rw [hdv]
      clear hdv
      obtain ⟨w1, hw1⟩ : ∃ w1, w1 = wo.drewN nq := ⟨_, rfl⟩
      rw [← hw1]
      rw [← hw1] at RI
      clear hw1
      go_wp2
      go_loopw [28] (fun i wr => ∃ k : Nat, k ≤ n ∧ i = .int .i64 k ∧ RowInv D W wo wr a ao n (fillTo dd0 k) q0 qa0 qc0) (fun i _ => n - (intOf i).toNat)
      case atStart => exact ⟨0, Nat.zero_le _, rfl, RI.out.congr fun i _ => fill_zero _ _⟩
      case round =>
        obtain ⟨k, hk, rfl, ri⟩ := hrel
        clear RI
        by_cases hlt' : k < n
        · obtain ⟨g, rfl, hc⟩ := ri.get (by omega)
          obtain ⟨p0, f0⟩ := hc k hlt'
          have R : Hid (RowInv D W wo (wr.setCell ⟨g, k, none⟩ (.int .i32 (-1))) (some ⟨g, 0, none⟩) ao n (fillTo dd0 (k + 1)) q0 qa0 qc0) := (ri.store k (-1)).congr fun i _ => fill_step _ _ _
          clear ri hc
          go_wp2
          go_roundw
          case rel => exact ⟨k + 1, by omega, by go_num, R.out⟩
          case measure => simp [intOf]; omega
        · obtain rfl : k = n := by omega
          obtain ⟨w2, rfl⟩ : ∃ w2 : World, w2 = wr := ⟨_, rfl⟩
          have RI := hide ri.cut
          have pv := (HS.out.kept ri.kept).vals
          have SEED : Hid (Seeds k (fillTo dd0 k) [] (Tgt nodes rounds vs round 0 (v : Int))) := Seeds.start k _ _ (fun u hu => fill_all _ hu) (fun u ⟨i, h0, _⟩ => absurd h0 (Nat.not_lt_zero _))
          clear ri
          generalize fillTo dd0 k = d0 at *
          go_wp2
          go_loopw [8, 42] (fun s i wr => ∃ (j : Nat) (q : List Nat) (qa : Option Addr) (qc : Nat) (d : Nat → Int), j ≤ m ∧ i = .int .i64 j ∧ s = .slice qa q.length qc ∧ RowInv D W wo wr a ao k d q qa qc ∧ Seeds k d q (Tgt nodes rounds vs round j (v : Int))) (fun _ i _ => m - (intOf i).toNat)
          case atStart => exact ⟨0, [], qa0, qc0, d0, Nat.zero_le _, rfl, rfl, RI.out, SEED.out⟩
          case round =>
            obtain ⟨j, q, qa, qc, d, hj, rfl, rfl, ri, sd⟩ := hrel
            clear RI SEED
            by_cases hjm : j < m
            · have sc := HS.out.kept ri.kept
              obtain ⟨p, hp⟩ : ∃ p : Nat, nodes j = (p : Int) := ⟨(nodes j).toNat, by have := HHE.out j hjm; omega⟩
              have hpn : p < k := by have := HHE.out j hjm; omega
              obtain ⟨c0, c1, c2⟩ := sc.va j hjm
              obtain ⟨hy1, hy2⟩ := HVA.out j hjm
              rw [hp] at c0
              obtain ⟨r, hr⟩ : ∃ r, r = rounds j := ⟨_, rfl⟩
              obtain ⟨y, hy⟩ : ∃ y, y = vs j := ⟨_, rfl⟩
              rw [← hr] at c1
              rw [← hy] at c2 hy1 hy2
              have HP := hide hp
              have HR := hide hr
              have HY := hide hy
              have hln := hide (nodup_len k q sd.nodup sd.lt)
              obtain ⟨g, rfl, hc⟩ := ri.get (by omega)
              have HRI := hide ri
              have HSD := hide sd
              clear hp hr hy sc pv sd
              go_upto_region 14 with (fail)
              obtain ⟨w3, hw3, ri3, oa⟩ : ∃ w3, w3 = wr.alloc (.cells #[.int .i32 (p : Int), .int .i64 r, .int .i8 y] 57) ∧ RowInv D W wo w3 (some ⟨g, 0, none⟩) ao k d q qa qc ∧ OutAt w3 wr.heap.size p r y := ⟨_, rfl, ri.alloc _, OutAt.start wr p r y 57⟩
              rw [← hw3]
              have hob : W.heap.size ≤ wr.heap.size := ri.kept.size
              have hgW : g < W.heap.size := (ri.dn _ rfl).2
              generalize wr.heap.size = ob at *
              clear hw3 ri HRI hc c0 c1 c2
              obtain ⟨c0, c1, c2⟩ := oa
              obtain ⟨g', hgg, hc⟩ := ri3.get (by omega)
              obtain rfl : g = g' := by simpa using hgg
              clear hgg
              obtain ⟨p0, f0⟩ := hc p hpn
              have HRI := hide ri3
              clear hc ri3
              by_cases e1 : r = round
              case neg =>
                have b1 : (r == round) = false := by simp [e1]
                have SD : Hid (Seeds k d q (Tgt nodes rounds vs round (j + 1) (v : Int))) := HSD.out.skip fun u _ => tgt_skip (fun h => e1 (HR.out.trans h.1)) u
                clear e1 HSD
                go_wp2
                go_roundw
                case rel => exact ⟨j + 1, q, qa, qc, d, by omega, by go_num, rfl, HRI.out, SD.out⟩
                case measure => simp [intOf]; omega
              have b1 : (r == round) = true := by simp [e1]
              by_cases e2 : y = (v : Int)
              case neg =>
                have b2 : (y == (v : Int)) = false := by simp [e2]
                have SD : Hid (Seeds k d q (Tgt nodes rounds vs round (j + 1) (v : Int))) := HSD.out.skip fun u _ => tgt_skip (fun h => e2 (HY.out.trans h.2)) u
                clear e1 e2 HSD
                go_wp2
                go_roundw
                case rel => exact ⟨j + 1, q, qa, qc, d, by omega, by go_num, rfl, HRI.out, SD.out⟩
                case measure => simp [intOf]; omega
              have b2 : (y == (v : Int)) = true := by simp [e2]
              have HTS := hide (tgt_succ (HR.out.symm.trans e1) (HY.out.symm.trans e2) HP.out)
              clear e1 e2
              obtain ⟨dp, hdp⟩ : ∃ dp, dp = d p := ⟨_, rfl⟩
              rw [← hdp] at p0
              by_cases e3 : dp < 0
              case neg =>
                have SD : Hid (Seeds k d q (Tgt nodes rounds vs round (j + 1) (v : Int))) := HSD.out.old hpn (by omega) HTS.out
                clear HSD hdp
                go_wp2
                go_roundw
                case rel => exact ⟨j + 1, q, qa, qc, d, by omega, by go_num, rfl, HRI.out, SD.out⟩
                case measure => simp [intOf]; omega
              have SD : Hid (Seeds k (upd d p 0) (q ++ [p]) (Tgt nodes rounds vs round (j + 1) (v : Int))) := HSD.out.new hpn (by omega) HTS.out
              clear HSD hdp
              go_upto_region 16 with (fail)
              obtain ⟨w4, hw4, ri4, d0⟩ : ∃ w4, w4 = w3.setCell ⟨g, p, none⟩ (.int .i32 0) ∧ RowInv D W wo w4 (some ⟨g, 0, none⟩) ao k (upd d p 0) q qa qc ∧ w4.cell? ⟨ob, 0, none⟩ = some (.int .i32 (p : Int)) :=
                ⟨_, rfl, HRI.out.store p 0, (World.cell?_setCell_far _ _ _ _ (by show g ≠ ob; omega)).trans c0⟩
              rw [← hw4]
              clear hw4 HRI c0 c1 c2 p0 f0
              have hz4 := ri4.kept.size
              have hlq := hln.out
              go_wp2_with (at_builtin; refine stand ?_)
              unfold Hid
              refine wpList_append_lies _ rfl _ _ 22 rfl W.heap.size 21 i0 (.int .i32 0) 1 4 Try.underlying22 hi hz0 hz1 hz2 rfl (by omega) (.slice qa q.length qc) q.length (qcells q) rfl (ri4.own.alloc _) ⟨w4.heap.size, 0, none⟩ 1 1 [.int .i32 (p : Int)] rfl rfl (news_one w4 p 21) (one_one p) (by omega) (by unfold maxLen; omega) (by omega) (by simp; omega) (w4.heap.size + 1) (by simp) ?_
              intro g1 cap1 w5 hown5 hgrow5 hat5 hlt5
              have RI5 := hide ((ri4.alloc _).grown hgrow5 hown5)
              have hlen : Hid ((q ++ [p]).length = q.length + 1) := by simp [Hid]
              clear hown5 hgrow5 hat5 hlt5 ri4 d0
              go_wp2
              go_roundw
              case rel => exact ⟨j + 1, q ++ [p], some ⟨g1, 0, none⟩, cap1, upd d p 0, by omega, by go_num, by rw [hlen.out], RI5.out, SD.out⟩
              case measure => simp [intOf]; omega
            · obtain rfl : j = m := by omega
              have BF : Hid (Bfs k G (T v) d q 0 (fun _ => False)) := by
                rw [Hid, HT.out]
                exact sd.bfs
              have RI := hide ri
              obtain ⟨w3, rfl⟩ : ∃ w3 : World, w3 = wr := ⟨_, rfl⟩
              clear ri sd pv HT HHE HVA
              go_wp2
              go_loopw [8, 14] (fun s i wr => ∃ (h : Nat) (q : List Nat) (qa : Option Addr) (qc : Nat) (d : Nat → Int), i = .int .i64 h ∧ s = .slice qa q.length qc ∧ h ≤ q.length ∧ RowInv D W wo wr a ao k d q qa qc ∧ Bfs k G (T v) d q h (fun _ => False)) (fun _ i _ => k - (intOf i).toNat)
              case atStart => exact ⟨0, q, qa, qc, d, rfl, rfl, Nat.zero_le _, RI.out, BF.out⟩
              case round =>
                clear RI BF
                obtain ⟨h, q, qa, qc, d, rfl, rfl, hhq, ri, bf⟩ := hrel
                have hln := bf.len
                obtain ⟨w4, rfl⟩ : ∃ w4 : World, w4 = wr := ⟨_, rfl⟩
                by_cases hh : h < q.length
                · obtain ⟨u, hu⟩ : ∃ u, q[h]? = some u := ⟨_, List.getElem?_eq_getElem hh⟩
                  obtain ⟨hun, hdu0, hdu1, hhn⟩ := bf.at hu
                  obtain ⟨gq, rfl, hgq, pq⟩ := ri.queue hu
                  obtain ⟨bs, os, rfl, hbs, cs⟩ := HS.out.st (by omega)
                  have hnbs : ¬ D bs := HS.out.ns _ rfl
                  have p0 := (ri.kept.cell (p := ⟨bs, os + u, none⟩) hbs hnbs).trans (cs u (by omega))
                  have p1 := (ri.kept.cell (p := ⟨bs, os + (u + 1), none⟩) hbs hnbs).trans (cs (u + 1) (by omega))
                  obtain ⟨lo, hlo⟩ : ∃ lo : Nat, start u = (lo : Int) := ⟨(start u).toNat, by have := HSG.out u (by omega); omega⟩
                  obtain ⟨up, hup⟩ : ∃ up : Nat, start (u + 1) = (up : Int) := ⟨(start (u + 1)).toNat, by have := HSG.out (u + 1) (by omega); omega⟩
                  have hlu : lo ≤ up := by have := HMO.out u hun; omega
                  have hun1 : up ≤ n1 := by have := (HSG.out (u + 1) (by omega)).2; omega
                  rw [hlo] at p0
                  rw [hup] at p1
                  have x0 := (ri.kept.cell (p := ⟨w.heap.size, 0, none⟩) HBX.out.lt HNB.out).trans HBX.out.b0
                  have x1 := (ri.kept.cell (p := ⟨w.heap.size, 1, none⟩) HBX.out.lt HNB.out).trans HBX.out.b1
                  have HLO := hide hlo
                  have HUP := hide hup
                  have HU := hide hu
                  have HRI := hide ri
                  have HBF := hide bf
                  clear hlo hup cs hnbs ri bf hu hdu0 hdu1
                  by_cases hle : lo = up
                  · subst hle
                    have BF : Hid (Bfs k G (T v) d q (h + 1) (fun _ => False)) := HBF.out.next hh (fun p hp => by
                      rw [HG.out] at hp
                      obtain ⟨t, h1, h2, _⟩ := hp
                      rw [(List.getElem?_eq_some_iff.1 HU.out).2] at h1 h2
                      rw [HLO.out] at h1
                      rw [HUP.out] at h2
                      omega)
                    clear HBF HU
                    go_upto_region 22 with (fail)
                    go_quiet (fail)
                    generalize (if n1 = lo then af else Option.map (fun x => x.add lo) af) = fa
                    have RI := hide (HRI.out.drewN nq)
                    obtain ⟨w5, hw5⟩ : ∃ w5, w5 = w4.drewN nq := ⟨_, rfl⟩
                    rw [← hw5]
                    rw [← hw5] at RI
                    clear hw5 HRI x0 x1 p0 p1 pq
                    go_wp2
                    refine wp_loop_rounds 1 ?_
                    rw [rounds_succ]
                    go_wp2
                    go_roundw
                    case rel => exact ⟨h + 1, q, _, qc, d, by go_num, rfl, by omega, RI.out, BF.out⟩
                    case measure => simp [intOf]; omega
                  · obtain ⟨bfm, ofs, rfl, hbf, cf⟩ := HS.out.fr (by omega)
                    have hnf : Hid (¬ D bfm) := HS.out.nf _ rfl
                    have HCF := hide cf
                    have BF : Hid (Bfs k G (T v) d q h (fun p => ∃ t, t < 0 ∧ frm (lo + t) = (p : Int))) := { HBF.out with cur := fun _ _ ⟨_, h0, _⟩ => absurd h0 (Nat.not_lt_zero _) }
                    clear cf HBF
                    go_upto_region 22 with (fail)
                    go_quiet (fail)
                    have RI := hide (HRI.out.drewN nq)
                    obtain ⟨w5, hw5⟩ : ∃ w5, w5 = w4.drewN nq := ⟨_, rfl⟩
                    rw [← hw5]
                    rw [← hw5] at RI
                    clear hw5 HRI x0 x1 p0 p1 pq
                    go_wp2
                    go_loopw [8, 100] (fun s i wr => ∃ (t : Nat) (q : List Nat) (qa : Option Addr) (qc : Nat) (d : Nat → Int), t ≤ up - lo ∧ i = .int .i64 t ∧ s = .slice qa q.length qc ∧ RowInv D W wo wr a ao k d q qa qc ∧ q[h]? = some u ∧ Bfs k G (T v) d q h (fun p => ∃ t', t' < t ∧ frm (lo + t') = (p : Int))) (fun _ i _ => (up - lo) - (intOf i).toNat)
                    case atStart => exact ⟨0, q, _, qc, d, Nat.zero_le _, by rfl, rfl, RI.out, HU.out, BF.out⟩
                    case round =>
                      clear RI BF HU
                      obtain ⟨t, q, qa, qc, d, ht, rfl, rfl, ri, hu, bf⟩ := hrel
                      obtain ⟨hun, hdu0, hdu1, hhn⟩ := bf.at hu
                      have hln := bf.len
                      have HU := hide hu
                      have HBF := hide bf
                      by_cases htl : t < up - lo
                      · have hta := HTA.out u hun (lo + t) (by rw [HLO.out]; omega) (by rw [HUP.out]; omega)
                        obtain ⟨p, hp⟩ : ∃ p : Nat, frm (lo + t) = (p : Int) := ⟨(frm (lo + t)).toNat, by omega⟩
                        have hpk : p < k := by omega
                        have p0 := (ri.kept.cell (p := ⟨bfm, ofs + (lo + t), none⟩) hbf hnf.out).trans (HCF.out (lo + t) (by omega))
                        rw [hp, ← Nat.add_assoc] at p0
                        obtain ⟨g, rfl, hc⟩ := ri.get (by omega)
                        obtain ⟨p1, f1⟩ := hc p hpk
                        obtain ⟨p2, f2⟩ := hc u hun
                        have HP := hide hp
                        have hse : Hid (∀ x : Nat, (∃ t', t' < t + 1 ∧ frm (lo + t') = (x : Int)) → (∃ t', t' < t ∧ frm (lo + t') = (x : Int)) ∨ x = p) := fun x ⟨t', h1, h2⟩ => by
                          rcases Nat.lt_succ_iff_lt_or_eq.1 h1 with h1 | rfl
                          · exact Or.inl ⟨t', h1, h2⟩
                          · right; rw [HP.out] at h2; omega
                        have HRI := hide ri
                        clear hp hta hc hu bf ri
                        obtain ⟨du, hdu⟩ : ∃ du, du = d u := ⟨_, rfl⟩
                        obtain ⟨dp, hdp⟩ : ∃ dp, dp = d p := ⟨_, rfl⟩
                        rw [← hdu] at p2 hdu0 hdu1
                        rw [← hdp] at p1
                        by_cases e3 : dp < 0
                        case neg =>
                          have BF : Hid (Bfs k G (T v) d q h (fun p => ∃ t', t' < t + 1 ∧ frm (lo + t') = (p : Int))) := HBF.out.old (List.getElem?_eq_some_iff.1 HU.out).1 hpk (by omega) hse.out
                          clear HBF hdu hdp
                          go_wp2
                          go_roundw
                          case rel => exact ⟨t + 1, q, qa, qc, d, by omega, by go_num, rfl, HRI.out, HU.out, BF.out⟩
                          case measure => simp [intOf]; omega
                        have BF : Hid (Bfs k G (T v) (upd d p (du + 1)) (q ++ [p]) h (fun p => ∃ t', t' < t + 1 ∧ frm (lo + t') = (p : Int))) := by
                          obtain ⟨hh', hu'⟩ := List.getElem?_eq_some_iff.1 HU.out
                          have := HBF.out.new hh' hpk (by omega) (by rw [hu', HG.out]; exact ⟨lo + t, by rw [HLO.out]; omega, by rw [HUP.out]; omega, HP.out⟩) hse.out
                          rw [hu', ← hdu] at this
                          exact this
                        have HU' : Hid ((q ++ [p])[h]? = some u) := by
                          rw [Hid, List.getElem?_append_left (List.getElem?_eq_some_iff.1 HU.out).1]
                          exact HU.out
                        clear HBF HU hdu hdp
                        go_upto_region 27 with (fail)
                        obtain ⟨w6, hw6, ri6⟩ : ∃ w6, w6 = wr.setCell ⟨g, p, none⟩ (.int .i32 (du + 1)) ∧ RowInv D W wo w6 (some ⟨g, 0, none⟩) ao k (upd d p (du + 1)) q qa qc := ⟨_, rfl, HRI.out.store p (du + 1)⟩
                        rw [← hw6]
                        clear hw6 HRI p0 p1 p2 f1 f2
                        have hz6 := ri6.kept.size
                        go_wp2_with (at_builtin; refine stand ?_)
                        unfold Hid
                        refine wpList_append_lies _ rfl _ _ 22 rfl W.heap.size 21 i0 (.int .i32 0) 1 4 Try.underlying22 hi hz0 hz1 hz2 rfl (by omega) (.slice qa q.length qc) q.length (qcells q) rfl (ri6.own.alloc _) ⟨w6.heap.size, 0, none⟩ 1 1 [.int .i32 (p : Int)] rfl rfl (news_one w6 p 21) (one_one p) (by omega) (by unfold maxLen; omega) (by omega) (by simp; omega) (w6.heap.size + 1) (by simp) ?_
                        intro g1 cap1 w7 hown7 hgrow7 hat7 hlt7
                        have RI7 := hide ((ri6.alloc _).grown hgrow7 hown7)
                        have hlen : Hid ((q ++ [p]).length = q.length + 1) := by simp [Hid]
                        clear hown7 hgrow7 hat7 hlt7 ri6
                        go_wp2
                        go_roundw
                        case rel => exact ⟨t + 1, q ++ [p], some ⟨g1, 0, none⟩, cap1, upd d p (du + 1), by omega, by go_num, by rw [hlen.out], RI7.out, HU'.out, BF.out⟩
                        case measure => simp [intOf]; omega
                      · obtain rfl : t = up - lo := by omega
                        have hh' := (List.getElem?_eq_some_iff.1 hu).1
                        have BF : Hid (Bfs k G (T v) d q (h + 1) (fun _ => False)) := HBF.out.next hh' (fun p hp => by
                          rw [HG.out] at hp
                          obtain ⟨t, h1, h2, h3⟩ := hp
                          rw [(List.getElem?_eq_some_iff.1 HU.out).2] at h1 h2
                          rw [HLO.out] at h1
                          rw [HUP.out] at h2
                          exact ⟨t - lo, by omega, by rw [show lo + (t - lo) = t by omega]; exact h3⟩)
                        have HRI := hide ri
                        clear HBF bf hu HU ri
                        go_wp2
                        go_roundw
                        case rel => exact ⟨h + 1, q, qa, qc, d, by go_num, rfl, by omega, HRI.out, BF.out⟩
                        case measure => simp [intOf]; omega
                · have hd := hide (ON.out ri (bf.dist (by omega)))
                  clear ri bf
                  go_wp2
                  go_roundw
                  case rel => exact ⟨v + 1, q, qa, qc, by omega, by go_num, rfl, hd.out⟩
                  case measure => simp [intOf]; omega
    · obtain rfl : v = 2 := by omega
      go_wp2
      go_end0
      refine ⟨rfl, KW.out.trans oinv.kept, ?_, ?_⟩
      · obtain ⟨d, h1, h2⟩ := oinv.row 0 (by omega)
        exact ⟨d, h1, h2 (by omega)⟩
      · obtain ⟨d, h1, h2⟩ := oinv.row 1 (by omega)
        exact ⟨d, h1, h2 (by omega)⟩
end Go.Proofs.Qxb6604786a
