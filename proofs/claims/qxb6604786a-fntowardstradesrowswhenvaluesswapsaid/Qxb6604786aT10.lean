import Derived.Test.Qxb6604786aT9
namespace Go.Proofs.Qxb6604786a
open Go.RowKit

set_option maxRecDepth 100000 in
set_option maxHeartbeats 1000000 in
theorem zz23_nil (a0 a1 a2 a3 a4 : Option Addr) (n0 c0 n1 c1 n2 c2 n3 c3 n4 c4 : Nat) (r : Int) (w : World) (h0 : n0 ≤ maxLen) (h1 : n1 ≤ maxLen) (h2 : n2 ≤ maxLen) (h3 : n3 ≤ maxLen) (h4 : n4 ≤ maxLen) :
    Calls Try.prog 23 #[.slice a0 n0 c0, .slice a1 n1 c1, .slice a2 n2 c2, .slice a3 n3 c3, .slice a4 n4 c4, .int .i64 r, .pointer none] w fun e w' => SomeBool e ∧ w' = w := by
  unfold maxLen at h0 h1 h2 h3 h4
  go_enter Try.func23, Try.ntmps23
  go_wp2
  all_goals (go_ret; exact ⟨someBool _, rfl⟩)

set_option maxRecDepth 100000 in
set_option maxHeartbeats 1000000 in
theorem zz23_any (a0 a1 a2 a3 a4 b0 b1 : Option Addr) (n0 c0 n1 c1 n2 c2 n3 c3 n4 c4 m0 e0 m1 e1 b off : Nat) (r : Int) (w : World) (h0 : n0 ≤ maxLen) (h1 : n1 ≤ maxLen) (h2 : n2 ≤ maxLen) (h3 : n3 ≤ maxLen) (h4 : n4 ≤ maxLen) (h5 : m0 ≤ maxLen) (h6 : m1 ≤ maxLen) (hR : TwoRows w b off b0 b1 m0 e0 m1 e1) :
    Calls Try.prog 23 #[.slice a0 n0 c0, .slice a1 n1 c1, .slice a2 n2 c2, .slice a3 n3 c3, .slice a4 n4 c4, .int .i64 r, .pointer (some ⟨b, off, none⟩)] w fun e w' => SomeBool e ∧ w' = w := by
  unfold maxLen at h0 h1 h2 h3 h4 h5 h6
  obtain ⟨r0, r1⟩ := hR
  go_enter Try.func23, Try.ntmps23
  go_wp2
  iterate 9 (· go_ret; exact ⟨someBool _, rfl⟩)
  refine wp_loop_rounds 3 ?_
  rw [rounds_succ]
  go_wp2
  iterate 2 (· go_ret; exact ⟨someBool _, rfl⟩)
  rw [rounds_succ]
  go_wp2
  iterate 2 (· go_ret; exact ⟨someBool _, rfl⟩)
  rw [rounds_succ]
  go_wp2
  go_ret
  exact ⟨someBool _, rfl⟩

set_option maxRecDepth 100000 in
set_option maxHeartbeats 1000000 in
theorem same_any (a b : Option Addr) (n ca cb : Nat) (f g : Nat → Int) (w : World) (hn : n ≤ 65536) (ha : IsRow .i32 w a n f) (hb : IsRow .i32 w b n g) (he : ∀ i, i < n → f i = g i) :
    Calls Try.prog 24 #[.slice a n ca, .slice b n cb] w fun e w' => e = .returned (.bool true) ∧ Below w.heap.size w w' := by
  have HA := hide ha
  have HB := hide hb
  have HE := hide he
  clear ha hb he
  go_enter Try.func24, Try.ntmps24
  go_wp2
  go_loopw [5] (fun i wr => ∃ k : Nat, k ≤ n ∧ i = .int .i64 k ∧ Below w.heap.size w wr) (fun i _ => n - (intOf i).toNat)
  case atStart => exact ⟨0, Nat.zero_le _, rfl, Below.refl _ _⟩
  case round =>
    obtain ⟨k, hk, rfl, bel⟩ := hrel
    by_cases hlt : k < n
    · obtain ⟨b1, o1, rfl, hb1, c1⟩ := HA.out (by omega)
      obtain ⟨b2, o2, rfl, hb2, c2⟩ := HB.out (by omega)
      have p1 := (bel.cell (p := ⟨b1, o1 + k, none⟩) hb1).trans (c1 k hlt)
      have p2 := (bel.cell (p := ⟨b2, o2 + k, none⟩) hb2).trans (c2 k hlt)
      rw [← HE.out k hlt] at p2
      generalize f k = x at *
      have HBL := hide bel
      clear bel c1 c2
      go_upto_region 6 with (fail)
      go_quiet (fail)
      have R := hide (below_drewN HBL.out nq)
      clear HBL
      go_wp2
      go_roundw
      case rel => exact ⟨k + 1, by omega, by go_num, R.out⟩
      case measure => simp [intOf]; omega
    · have R := hide bel
      clear bel
      go_wp2
      go_ret
      exact ⟨rfl, R.out⟩

/-- The value, 0 and 1 changed. -/
def sw (x : Int) : Int := if x = 0 then 1 else if x = 1 then 0 else x
def swTo (vs : Nat → Int) (k : Nat) : Nat → Int := fun i => if i < k then sw (vs i) else 0
theorem sw_one (x : Int) : sw x = 1 ↔ x = 0 := by
  unfold sw
  split
  · simp; assumption
  · split <;> omega
theorem sw_zero (x : Int) : sw x = 0 ↔ x = 1 := by
  unfold sw
  split
  · constructor <;> intro h <;> omega
  · split <;> omega
theorem sw_bd {x : Int} (h : -128 ≤ x ∧ x ≤ 127) : -128 ≤ sw x ∧ sw x ≤ 127 := by
  unfold sw
  split
  · omega
  · split <;> omega
theorem swTo_zero (vs : Nat → Int) (i : Nat) : swTo vs 0 i = 0 := if_neg (Nat.not_lt_zero _)
theorem swTo_step (vs : Nat → Int) (k i : Nat) : (if i = k then Value.int .i8 (sw (vs k)) else .int .i8 (swTo vs k i)) = .int .i8 (swTo vs (k + 1) i) := by
  unfold swTo
  by_cases e : i = k
  · subst e
    rw [if_pos rfl, if_pos (by omega)]
  · rw [if_neg e]
    by_cases h : i < k
    · rw [if_pos h, if_pos (by omega)]
    · rw [if_neg h, if_neg (by omega)]
theorem swTo_all (vs : Nat → Int) {k i : Nat} (h : i < k) : swTo vs k i = sw (vs i) := if_pos h

/-- While the values are changed. -/
structure SwInv (w wr : World) (n k : Nat) (vs : Nat → Int) : Prop where
  bel : Below w.heap.size w wr
  row : wr.rowIs w.heap.size 40 n (fun i => .int .i8 (swTo vs k i))
theorem SwInv.step {w wr : World} {n k : Nat} {vs : Nat → Int} (h : SwInv w wr n k vs) {y : Int} (hy : y = sw (vs k)) : SwInv w (wr.setCell ⟨w.heap.size, k, none⟩ (.int .i8 y)) n (k + 1) vs := by
  subst hy
  exact ⟨h.bel.setCell (Nat.le_refl _) _, (h.row.set k (.int .i8 (sw (vs k)))).congr fun i _ => swTo_step vs k i⟩

/-- A copy of dist, wherever it was made. -/
structure CopyAt (B : Nat) (w : World) (c : Nat) (a0 a1 : Option Addr) (n : Nat) (f0 f1 : Nat → Int) : Prop where
  c0 : w.cell? ⟨c, 0, none⟩ = some (.slice a0 n n)
  c1 : w.cell? ⟨c, 1, none⟩ = some (.slice a1 n n)
  r0 : OwnRow 21 .i32 w a0 n f0
  r1 : OwnRow 21 .i32 w a1 n f1
  ge : B ≤ c
  lt : c < w.heap.size
  g0 : ∀ p, a0 = some p → c < p.block
  g1 : ∀ p, a1 = some p → c < p.block
  apart : ∀ p q, a0 = some p → a1 = some q → p.block < q.block

section
variable {B : Nat} {w w' : World} {c : Nat} {a0 a1 : Option Addr} {n : Nat} {f0 f1 : Nat → Int}
theorem Copied.at {w0 : World} (h : Copied w0 w c a0 a1 n f0 f1) : CopyAt w0.heap.size w c a0 a1 n f0 f1 := ⟨h.c0, h.c1, h.r0, h.r1, h.ge, h.lt, h.g0, h.g1, h.apart⟩
theorem CopyAt.far (h : CopyAt B w c a0 a1 n f0 f1) : ∀ k, rowsIn a0 a1 k → c < k ∧ k < w.heap.size := fun k hk => by
  rcases hk with ⟨p, hp, rfl⟩ | ⟨p, hp, rfl⟩
  · exact ⟨h.g0 p hp, h.r0.lt p hp⟩
  · exact ⟨h.g1 p hp, h.r1.lt p hp⟩
theorem CopyAt.kept {D : Nat → Prop} (h : CopyAt B w c a0 a1 n f0 f1) (hk : Kept D w w') (hD : ∀ k, D k → k < B) : CopyAt B w' c a0 a1 n f0 f1 := by
  have hcB := h.ge
  have nc : ¬ D c := fun hd => by have := hD c hd; omega
  exact ⟨(hk.cell (p := ⟨c, 0, none⟩) h.lt nc).trans h.c0, (hk.cell (p := ⟨c, 1, none⟩) h.lt nc).trans h.c1, h.r0.kept hk (fun p hp hd => by have := hD _ hd; have := h.g0 p hp; omega), h.r1.kept hk (fun p hp hd => by have := hD _ hd; have := h.g1 p hp; omega),
    h.ge, Nat.lt_of_lt_of_le h.lt hk.size, h.g0, h.g1, h.apart⟩
theorem CopyAt.below (h : CopyAt B w c a0 a1 n f0 f1) (hb : Below w.heap.size w w') : CopyAt B w' c a0 a1 n f0 f1 := h.kept (D := fun _ => False) (Kept.of_below hb) (fun _ h => h.elim)
theorem Clones.mono {ast af an ar av : Option Addr} {start frm nodes rounds vs : Nat → Int} {n0 n1 m B' : Nat} (h : Clones w B ast af an ar av start frm nodes rounds vs n0 n1 m) (hB : B ≤ B') : Clones w B' ast af an ar av start frm nodes rounds vs n0 n1 m :=
  ⟨h.st, h.fr, h.no, h.ro, h.va, fun p hp => Nat.lt_of_lt_of_le (h.ls p hp) hB, fun p hp => Nat.lt_of_lt_of_le (h.lf p hp) hB, fun p hp => Nat.lt_of_lt_of_le (h.ln p hp) hB, fun p hp => Nat.lt_of_lt_of_le (h.lr p hp) hB, fun p hp => Nat.lt_of_lt_of_le (h.lv p hp) hB⟩
theorem CopyAt.zin {ast af an ar av : Option Addr} {start frm nodes rounds vs : Nat → Int} {n0 n1 m : Nat} (hc : CopyAt B w c a0 a1 n f0 f1) (h : Clones w B ast af an ar av start frm nodes rounds vs n0 n1 m) : ZIn (rowsIn a0 a1) w c ast af an ar av a0 a1 start frm nodes rounds vs n0 n1 m n := by
  have hge := hc.far
  have hcg := hc.ge
  refine ⟨hc.c0, hc.c1, h.st, h.fr, h.no, h.ro, h.va, fun hd => ?_, fun p hp hd => ?_, fun p hp hd => ?_, fun p hp => Or.inl ⟨p, hp, rfl⟩, fun p hp => Or.inr ⟨p, hp, rfl⟩, fun k hk => (hge k hk).2, fun p q hp hq => ?_, ⟨f0, hc.r0⟩, ⟨f1, hc.r1⟩⟩
  · have := (hge c hd).1; omega
  · have := h.ls p hp; have := (hge _ hd).1; omega
  · have := h.lf p hp; have := (hge _ hd).1; omega
  · have := hc.apart p q hp hq; omega
end

theorem tgt_sw {nodes rounds vs : Nat → Int} {round x y : Int} {m : Nat} (h : ∀ z, sw z = y ↔ z = x) (u : Nat) : Tgt nodes rounds vs round m x u ↔ Tgt nodes rounds (fun i => sw (vs i)) round m y u := by
  constructor
  · rintro ⟨i, h1, h2, h3, h4⟩
    exact ⟨i, h1, h2, (h _).2 h3, h4⟩
  · rintro ⟨i, h1, h2, h3, h4⟩
    exact ⟨i, h1, h2, (h _).1 h3, h4⟩

/-- The worlds in which all that lay in w lies as it lay. -/
def Past (w : World) : Type := { W : World // Below w.heap.size w W }
def past (w : World) (p : Past w) : World := p.val
theorem past_some (w : World) : Nonempty (Past w) := ⟨⟨w, Below.refl _ _⟩⟩
theorem past_below (w : World) (p : Past w) : Below w.heap.size w (past w p) := p.property
theorem past_of {w W : World} (h : Below w.heap.size w W) : ∃ p, W = past w p := ⟨⟨W, h⟩, rfl⟩
theorem cell?_past (w : World) (p : Past w) (a : Addr) (h : (w.cell? a).isSome = true) : (past w p).cell? a = w.cell? a := by
  obtain ⟨v, hv⟩ := Option.isSome_iff_exists.1 h
  exact (past_below w p).cell (World.block_lt_of_cell? w a hv)
/-- A region that draws its order, whose operations and callees leave all that lay in w as it lay: one walk in the text's order. -/
theorem region_past {P : Program} {id : Nat} {Q : Exit → Act → World → Prop} {a : Act} {w : World} {l : List Oper} (hm : P.follows .mixedOrders = true) (hB : Region.lexB .any l.toArray = true)
    (h : wpQuiet P l.toArray (fun w' => ∃ p, w' = past w p) (fun a' => ∀ w', (∃ p, w' = past w p) → Q .normal a' w') l a) : (Code.region id l.toArray true).wp P Q a w :=
  wp_region_quiet (C := fun w' => ∃ p, w' = past w p) hm hB (past_of (Below.refl _ _).drew) (by simpa using h)
theorem calls_past {P : Program} {f : FuncId} {args : Array Value} {w : World} {p : Past w} {v : Value}
    (h : Calls P f args (past w p) fun e w' => e = .returned v ∧ Below (past w p).heap.size (past w p) w') : Calls P f args (past w p) fun e w'' => e = .returned v ∧ ∃ q, w'' = past w q :=
  h.mono fun _ _ ⟨he, hb⟩ => ⟨he, past_of ((past_below w p).trans (hb.mono (past_below w p).size))⟩

set_option maxRecDepth 100000 in
set_option maxHeartbeats 1000000 in
theorem walk6_nil (a0 a1 a2 a3 a4 : Option Addr) (n0 c0 n1 c1 n2 c2 n3 c3 n4 c4 : Nat) (start frm nodes rounds vs : Nat → Int) (round : Int) (w : World) (hA : ArgsIn w a0 a1 a2 a3 a4 n0 n1 n2 n3 n4 start frm nodes rounds vs) :
    Calls Try.prog 6 #[.slice a0 n0 c0, .slice a1 n1 c1, .slice a2 n2 c2, .slice a3 n3 c3, .slice a4 n4 c4, .int .i64 round, .pointer none] w fun e w' => e = .returned (.bool true) ∧ Below w.heap.size w w' := by
  have H1 := hide (zz23_nil a0 a1 a2 a3 a4 n0 c0 n1 c1 n2 c2 n3 c3 n4 c4 round w hA.l0 hA.l1 hA.l2 hA.l3 hA.l4)
  have H2 := hide (over_nil a0 a1 a2 a3 a4 n0 c0 n1 c1 n2 c2 n3 c3 n4 c4 w hA.l0 hA.l1 hA.l2 hA.l3 hA.l4)
  clear hA
  go_enter Try.func6, Try.ntmps6
  go_wp2_with fail
  refine H1.out.mono ?_
  rintro e w1 ⟨⟨r, rfl⟩, rfl⟩
  clear H1
  cases r
  · go_wp2
    go_ret
    exact ⟨rfl, Below.refl _ _⟩
  go_wp2_with fail
  refine H2.out.mono ?_
  rintro e w2 ⟨⟨r, rfl⟩, rfl⟩
  clear H2
  cases r
  · go_wp2
    go_ret
    exact ⟨rfl, Below.refl _ _⟩
  · go_wp2
    go_ret
    exact ⟨rfl, Below.refl _ _⟩


attribute [local go_sem] cell?_past World.cell?_alloc_some

set_option maxRecDepth 100000 in
set_option maxHeartbeats 1000000 in
theorem walk6_any (a0 a1 a2 a3 a4 b0 b1 : Option Addr) (n0 c0 n1 c1 n2 c2 n3 c3 n4 c4 m0 e0 m1 e1 b off : Nat) (start frm nodes rounds vs f0 f1 : Nat → Int) (round : Int) (w : World) (hA : ArgsIn w a0 a1 a2 a3 a4 n0 n1 n2 n3 n4 start frm nodes rounds vs)
    (l5 : m0 ≤ maxLen) (l6 : m1 ≤ maxLen) (hR : TwoRows w b off b0 b1 m0 e0 m1 e1) (hr0 : IsRow .i32 w b0 m0 f0) (hr1 : IsRow .i32 w b1 m1 f1) :
    Calls Try.prog 6 #[.slice a0 n0 c0, .slice a1 n1 c1, .slice a2 n2 c2, .slice a3 n3 c3, .slice a4 n4 c4, .int .i64 round, .pointer (some ⟨b, off, none⟩)] w fun e w' => e = .returned (.bool true) ∧ Below w.heap.size w w' := by
  have H1 := hide (zz23_any a0 a1 a2 a3 a4 b0 b1 n0 c0 n1 c1 n2 c2 n3 c3 n4 c4 m0 e0 m1 e1 b off round w hA.l0 hA.l1 hA.l2 hA.l3 hA.l4 l5 l6 hR)
  have H2 := hide (over_any a0 a1 a2 a3 a4 b0 b1 n0 c0 n1 c1 n2 c2 n3 c3 n4 c4 m0 e0 m1 e1 b off w hA.l0 hA.l1 hA.l2 hA.l3 hA.l4 l5 l6 hR)
  have HA := hide hA
  have HR := hide hR
  have HR0 := hide hr0
  have HR1 := hide hr1
  clear hA hR hr0 hr1
  go_enter Try.func6, Try.ntmps6
  go_wp2_with fail
  refine H1.out.mono ?_
  rintro e w1 ⟨⟨r, rfl⟩, rfl⟩
  clear H1
  cases r
  · go_wp2
    go_ret
    exact ⟨rfl, Below.refl _ _⟩
  go_wp2_with fail
  refine H2.out.mono ?_
  rintro e w2 ⟨⟨r, rfl, hS⟩, rfl⟩
  clear H2
  cases r
  case true =>
    go_wp2
    go_ret
    exact ⟨rfl, Below.refl _ _⟩
  have HS := hide (hS rfl)
  have H3 := hide (dom_any a0 a1 a2 a3 a4 b0 b1 n0 c0 n1 c1 n2 c2 n3 c3 n4 c4 m0 e0 m1 e1 b off start frm nodes w2 HS.out HR.out HA.out.st HA.out.fr HA.out.no HA.out.bf HA.out.bn)
  clear hS
  go_wp2_with fail
  refine H3.out.mono ?_
  rintro e w3 ⟨⟨r, rfl, hD⟩, bel3⟩
  clear H3
  cases r
  case false =>
    have HB := hide bel3
    clear bel3 hD
    go_wp2
    go_ret
    exact ⟨rfl, HB.out⟩
  have hD := hD rfl
  obtain rfl : m1 = m0 := hD.rows
  obtain rfl : n3 = n2 := hD.nr
  obtain rfl : n4 = n3 := hD.nv
  have HN := hide (nums_of HS.out hD HA.out.bv)
  clear hD
  have HB3 := hide bel3
  have C1 := hide (clone17 a0 n0 c0 start w3 HS.out.h0 (HA.out.st.below bel3))
  clear bel3
  go_wp2_with fail
  refine C1.out.mono ?_
  rintro e w4 ⟨s0, rfl, k0⟩
  have K0 := hide k0
  have HB4 := hide (bel_on HB3.out k0.bel)
  have C2 := hide (clone18 a1 n1 c1 frm w4 HS.out.h1 (HA.out.fr.below HB4.out))
  clear C1 k0
  go_wp2_with fail
  refine C2.out.mono ?_
  rintro e w5 ⟨s1, rfl, k1⟩
  have K1 := hide k1
  have HB5 := hide (bel_on HB4.out k1.bel)
  have C3 := hide (clone18 a2 n4 c2 nodes w5 HS.out.h2 (HA.out.no.below HB5.out))
  clear C2 k1
  go_wp2_with fail
  refine C3.out.mono ?_
  rintro e w6 ⟨s2, rfl, k2⟩
  have K2 := hide k2
  have HB6 := hide (bel_on HB5.out k2.bel)
  have C4 := hide (clone17 a3 n4 c3 rounds w6 HS.out.h3 (HA.out.ro.below HB6.out))
  clear C3 k2
  go_wp2_with fail
  refine C4.out.mono ?_
  rintro e w7 ⟨s3, rfl, k3⟩
  have K3 := hide k3
  have HB7 := hide (bel_on HB6.out k3.bel)
  have C5 := hide (clone19 a4 n4 c4 vs w7 HS.out.h4 (HA.out.va.below HB7.out))
  clear C4 k3
  go_wp2_with fail
  refine C5.out.mono ?_
  rintro e w8 ⟨s4, rfl, k4⟩
  have HB8 := hide (bel_on HB7.out k4.bel)
  have q0 := (HB8.out.cell (World.block_lt_of_cell? _ _ HR.out.r0)).trans HR.out.r0
  have CL : Hid (Clones w8 w8.heap.size s0 s1 s2 s3 s4 start frm nodes rounds vs n0 n1 n4) := by
    have x3 := K3.out.row.below k4.bel
    have g2 := bel_on K3.out.bel k4.bel
    have x2 := K2.out.row.below g2
    have g1 := bel_on K2.out.bel g2
    have x1 := K1.out.row.below g1
    have g0 := bel_on K1.out.bel g1
    have x0 := K0.out.row.below g0
    exact ⟨x0.row, x1.row, x2.row, x3.row, k4.row.row, x0.lt, x1.lt, x2.lt, x3.lt, k4.row.lt⟩
  clear C5 k4 K0 K1 K2 K3 HB3 HB4 HB5 HB6 HB7 q0
  have h4 := HS.out.h4
  have hmk := run_make_row' (P := Try.prog) 31 40 (.int .i8 0) 1 Try.underlying31 Try.info40 rfl .i64 .i64 n4 (by omega) (by omega)
  go_wp2
  go_loopw [16] (fun i wr => ∃ k : Nat, k ≤ n4 ∧ i = .int .i64 k ∧ SwInv w8 wr n4 k vs) (fun i _ => n4 - (intOf i).toNat)
  case atStart => exact ⟨0, Nat.zero_le _, rfl, (Below.refl _ _).alloc (Nat.le_refl _) _, (World.rowIs_made w8 (.int .i8 0) n4 40).congr fun i _ => by rw [swTo_zero]⟩
  case round =>
    obtain ⟨k, hk, rfl, si⟩ := hrel
    clear hmk
    by_cases hlt : k < n4
    · obtain ⟨b1, o1, rfl, hb1, c1⟩ := CL.out.va (by omega)
      have p1 := (si.bel.cell (p := ⟨b1, o1 + k, none⟩) hb1).trans (c1 k hlt)
      have q0 := si.row.cell hlt
      have f0 := si.row.frozen k
      obtain ⟨x, hx⟩ : ∃ x, x = vs k := ⟨_, rfl⟩
      rw [← hx] at p1
      by_cases e0 : x = 0
      · have b0 : (x == 0) = true := by simp [e0]
        have R := hide (si.step (y := 1) (by rw [← hx, e0]; rfl))
        clear si c1 hx e0
        go_wp2
        go_roundw
        case rel => exact ⟨k + 1, by omega, by go_num, R.out⟩
        case measure => simp [intOf]; omega
      · have b0 : (x == 0) = false := by simp [e0]
        by_cases e1 : x = 1
        · have b1 : (x == 1) = true := by simp [e1]
          have R := hide (si.step (y := 0) (by rw [← hx, e1]; rfl))
          clear si c1 hx e0 e1
          go_wp2
          go_roundw
          case rel => exact ⟨k + 1, by omega, by go_num, R.out⟩
          case measure => simp [intOf]; omega
        · have b1 : (x == 1) = false := by simp [e1]
          have R := hide (si.step (y := x) (by rw [← hx]; unfold sw; rw [if_neg e0, if_neg e1]))
          clear si c1 hx e0 e1
          go_wp2
          go_roundw
          case rel => exact ⟨k + 1, by omega, by go_num, R.out⟩
          case measure => simp [intOf]; omega
    · obtain rfl : k = n4 := by omega
      obtain ⟨wS, rfl⟩ : ∃ wS : World, wS = wr := ⟨_, rfl⟩
      have HBS := hide (bel_on HB8.out si.bel)
      have h8S : w8.heap.size < wS.heap.size := si.row.lt
      have CLS : Hid (Clones wS w8.heap.size s0 s1 s2 s3 s4 start frm nodes rounds vs n0 n1 k) := CL.out.below si.bel
      have CLT : Hid (Clones wS wS.heap.size s0 s1 s2 s3 (some ⟨w8.heap.size, 0, none⟩) start frm nodes rounds (fun i => sw (vs i)) n0 n1 k) := by
        have y := CLS.out.mono (Nat.le_of_lt h8S)
        refine ⟨y.st, y.fr, y.no, y.ro, fun hn => ⟨w8.heap.size, 0, rfl, h8S, fun i hi => ?_⟩, y.ls, y.lf, y.ln, y.lr, fun p hp => by cases hp; exact h8S⟩
        rw [Nat.zero_add, si.row.cell hi, swTo_all vs hi]
      have HNT : Hid (Nums start frm nodes (fun i => sw (vs i)) n0 n1 k m1) := { HN.out with vals := fun i hi => sw_bd (HN.out.vals i hi) }
      have C6 := hide (copy_any b off m1 e0 e1 b0 b1 f0 f1 wS HS.out.h5 ⟨(HBS.out.cell (World.block_lt_of_cell? _ _ HR.out.r0)).trans HR.out.r0, (HBS.out.cell (World.block_lt_of_cell? _ _ HR.out.r1)).trans HR.out.r1⟩ (HR0.out.below HBS.out) (HR1.out.below HBS.out))
      clear si CL HB8
      go_wp2_with fail
      refine C6.out.mono ?_
      rintro e wD ⟨ca, x0, x1, rfl, hc⟩
      have HCA := hide hc.at
      have HBD := hide (bel_on HBS.out hc.bel)
      have HSD := hide hc.bel
      have C7 := hide (copy_any b off m1 e0 e1 b0 b1 f0 f1 wD HS.out.h5 ⟨(HBD.out.cell (World.block_lt_of_cell? _ _ HR.out.r0)).trans HR.out.r0, (HBD.out.cell (World.block_lt_of_cell? _ _ HR.out.r1)).trans HR.out.r1⟩ (HR0.out.below HBD.out) (HR1.out.below HBD.out))
      clear C6 hc
      go_wp2_with fail
      refine C7.out.mono ?_
      rintro e wE ⟨cb, y0, y1, rfl, hc⟩
      have HCB := hide hc.at
      have HCA' := hide (HCA.out.below hc.bel)
      have HBE := hide (bel_on HBD.out hc.bel)
      have hSE := bel_on HSD.out hc.bel
      have hDE := hc.bel.size
      have hSD := HSD.out.size
      have CLE := hide ((CLS.out.mono (Nat.le_of_lt h8S)).below hSE)
      have CTE := hide (CLT.out.below hSE)
      have farA : Hid (∀ k, rowsIn x0 x1 k → ca < k ∧ k < wD.heap.size) := HCA.out.far
      have hga := HCA.out.ge
      have hcaD := HCA.out.lt
      have hgb := HCB.out.ge
      have hwS := HBS.out.size
      have C8 := hide (zz_towards (rowsIn x0 x1) ca s0 s1 s2 s3 s4 x0 x1 start frm nodes rounds vs round n0 n1 k m1 wE (HCA'.out.zin CLE.out) HN.out _ _ rfl rfl)
      clear C7 hc hSE HSD HCA CLS CLT
      go_wp2_with fail
      refine C8.out.mono ?_
      rintro e wF ⟨rfl, hd⟩
      obtain ⟨dd0, o0, D0⟩ := hd.r0
      obtain ⟨dd1, o1, D1⟩ := hd.r1
      have ncA : ¬ rowsIn x0 x1 ca := fun h => Nat.lt_irrefl _ (farA.out ca h).1
      have zA0 := (hd.kept.cell (p := ⟨ca, 0, none⟩) HCA'.out.lt ncA).trans HCA'.out.c0
      have zA1 := (hd.kept.cell (p := ⟨ca, 1, none⟩) HCA'.out.lt ncA).trans HCA'.out.c1
      have HCB' := hide (HCB.out.kept hd.kept (fun k hk => (farA.out k hk).2))
      have CTF := hide ((CTE.out.kept hd.kept (fun k hk => by have := (farA.out k hk).1; omega)).mono hSD)
      have HBF : Hid (Below w2.heap.size w2 wF) := HBE.out.trans (hd.kept.below HBE.out.size (fun k hk => by have := (farA.out k hk).1; omega))
      have hEF := hd.kept.size
      have haE := HCA'.out.lt
      have C9 := hide (zz_towards (rowsIn y0 y1) cb s0 s1 s2 s3 (some ⟨w8.heap.size, 0, none⟩) y0 y1 start frm nodes rounds (fun i => sw (vs i)) round n0 n1 k m1 wF (HCB'.out.zin CTF.out) HNT.out _ _ rfl rfl)
      have HO0 := hide o0
      have HO1 := hide o1
      have HD0 := hide D0
      have HD1 := hide D1
      have HZ0 := hide zA0
      have HZ1 := hide zA1
      clear C8 hd HCB CTE CLE o0 o1 D0 D1 zA0 zA1 ncA HCA' HBE
      go_wp2_with fail
      refine C9.out.mono ?_
      rintro e wG ⟨rfl, hd⟩
      obtain ⟨ee0, u0, E0⟩ := hd.r0
      obtain ⟨ee1, u1, E1⟩ := hd.r1
      have farB := HCB'.out.far
      have ncB : ¬ rowsIn y0 y1 cb := fun h => Nat.lt_irrefl _ (farB cb h).1
      have naB : ¬ rowsIn y0 y1 ca := fun h => by have := (farB ca h).1; omega
      have vB0 := (hd.kept.cell (p := ⟨cb, 0, none⟩) HCB'.out.lt ncB).trans HCB'.out.c0
      have vB1 := (hd.kept.cell (p := ⟨cb, 1, none⟩) HCB'.out.lt ncB).trans HCB'.out.c1
      have vA0 := (hd.kept.cell (p := ⟨ca, 0, none⟩) (by show ca < wF.heap.size; omega) naB).trans HZ0.out
      have vA1 := (hd.kept.cell (p := ⟨ca, 1, none⟩) (by show ca < wF.heap.size; omega) naB).trans HZ1.out
      have t0 := HO0.out.kept hd.kept (fun p hp h => by have := (farB _ h).1; have := (farA.out _ (Or.inl ⟨p, hp, rfl⟩)).2; omega)
      have t1 := HO1.out.kept hd.kept (fun p hp h => by have := (farB _ h).1; have := (farA.out _ (Or.inr ⟨p, hp, rfl⟩)).2; omega)
      have HBG : Hid (Below w2.heap.size w2 wG) := HBF.out.trans (hd.kept.below HBF.out.size (fun k hk => by have := (farB k hk).1; omega))
      have eq0 := HD0.out.unique (fun u _ => tgt_sw sw_one u) E1
      have eq1 := HD1.out.unique (fun u _ => tgt_sw sw_zero u) E0
      have h5 := HS.out.h5
      have S1 : Hid (∀ p : Past wG, Calls Try.prog 24 #[.slice x0 m1 m1, .slice y1 m1 m1] (past wG p) fun e w'' => e = .returned (.bool true) ∧ ∃ q, w'' = past wG q) := fun p => calls_past (same_any x0 y1 m1 m1 m1 dd0 ee1 _ h5 (t0.row.below (past_below wG p)) (u1.row.below (past_below wG p)) eq0)
      have S2 : Hid (∀ p : Past wG, Calls Try.prog 24 #[.slice x1 m1 m1, .slice y0 m1 m1] (past wG p) fun e w'' => e = .returned (.bool true) ∧ ∃ q, w'' = past wG q) := fun p => calls_past (same_any x1 y0 m1 m1 m1 dd1 ee0 _ h5 (t1.row.below (past_below wG p)) (u0.row.below (past_below wG p)) eq1)
      clear C9 hd HO0 HO1 HD0 HD1 HZ0 HZ1 u0 u1 E0 E1 t0 t1 eq0 eq1 farB ncB naB HCB' HBF farA CTF
      go_upto_region 28 with (fail)
      have hne := past_some wG
      refine region_past (by kernel_rfl) (by kernel_rfl) ?_
      iterate 9 (go_big_quiet_step (exact S1.out _))
      clear S1
      repeat (go_big_quiet_step (exact S2.out _))
      refine wpQuiet_nil ?_
      intro _ hw'
      obtain ⟨p, hw''⟩ := hw'
      subst hw''
      have HB := hide (bel_on HBG.out (past_below wG p))
      clear S2 HBG
      go_wp2
      go_ret
      exact ⟨rfl, HB.out⟩
end Go.Proofs.Qxb6604786a
