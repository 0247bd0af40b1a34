import Derived.Test.Qxb6604786aT6
namespace Go.Proofs.Qxb6604786a
open Go.RowKit

theorem Try.zero57 : ((Try.prog.info? 57).bind (·.zero)).isSome = true := by kernel_rfl
theorem Try.info57s : (Try.prog.info? 57).map (fun i => (i.size, i.bytes)) = some (3, 24) := by kernel_rfl
theorem Try.size57 : (Try.prog.info? 57).map (·.size) = some 3 := by kernel_rfl

theorem make57 (n : Nat) (hn : n ≤ 65536) : ∃ C : Array Value, C.size = n * 3 ∧ ∀ w : World, (Instr.makeSlice 46 (.int .i64 (n : Int)) (.int .i64 (n : Int))).run Try.prog w = .ok (.slice (some ⟨w.heap.size, 0, none⟩) n n) (w.alloc (.cells C 57)) := by
  obtain ⟨z, hz⟩ := Option.isSome_iff_exists.1 Try.zero57
  have h := Try.info57s
  cases hq : Try.prog.info? 57 with
  | none => simp [hq] at h
  | some i =>
    simp [hq] at h hz
    obtain ⟨h1, h2⟩ := h
    refine ⟨madeCells z.cells (n * 3), size_madeCells _ _, fun w => ?_⟩
    have := run_make (P := Try.prog) w 46 57 i z Try.underlying46 hq hz .i64 .i64 n n (by omega) (by omega) (by rw [h2]; omega) (by omega)
    rw [h1] at this
    simpa using this

/-- The three cells of an output. -/
def outCells (x r y : Int) : List Value := [.int .i32 x, .int .i64 r, .int .i8 y]
theorem out_one (x r y : Int) : (outCells x r y).toArray.all (·.oneCell') = true := by simp [outCells, Value.oneCell']

/-- What the loop that lays the outputs keeps: k of them are written. -/
structure ValTo (w wr : World) (nodes rounds vs : Nat → Int) (n k : Nat) : Prop where
  size : wr.heap.size = w.heap.size + 1
  bel : Below w.heap.size w wr
  th : wr.there w.heap.size 0 (n * 3)
  done : ∀ i, i < k → wr.rangeAt w.heap.size (i * 3) (outCells (nodes i) (rounds i) (vs i))

section
variable {w wr : World} {nodes rounds vs : Nat → Int} {n k : Nat}
theorem ValTo.start (w : World) (nodes rounds vs : Nat → Int) (n : Nat) (C : Array Value) (hC : C.size = n * 3) : ValTo w (w.alloc (.cells C 57)) nodes rounds vs n 0 where
  size := by simp
  bel := (Below.refl _ _).alloc (Nat.le_refl _) _
  th := fun j hj => by
    have hb : (w.alloc (.cells C 57)).heap[w.heap.size]? = some (.cells C 57) := heap_alloc_new w _
    constructor
    · simp only [World.cell?, hb]
      simp; omega
    · simp only [World.frozen?, hb]
      simp
  done := fun i hi => absurd hi (Nat.not_lt_zero _)

theorem ValTo.step (h : ValTo w wr nodes rounds vs n k) (hk : k < n) : ValTo w (wr.drew.setCells w.heap.size (k * 3) (outCells (nodes k) (rounds k) (vs k))) nodes rounds vs n (k + 1) := by
  have hth : wr.drew.there w.heap.size 0 (n * 3) := h.th
  refine ⟨?_, ?_, ?_, ?_⟩
  · rw [size_setCells]; exact h.size
  · exact below_setCells h.bel.drew (Nat.le_refl _) _ _
  · exact World.there_setCells hth _ _ _
  · intro i hi
    rcases Nat.lt_succ_iff_lt_or_eq.1 hi with hi | rfl
    · exact World.rangeAt_setCells_apart (by exact h.done i hi) _ _ _ (by simp only [outCells, List.length_cons, List.length_nil]; omega)
    · refine World.rangeAt_setCells_same _ _ _ _ (fun j hj => ?_)
      have := hth (i * 3 + j) (by simp only [outCells, List.length_cons, List.length_nil] at hj; omega)
      simpa using this

theorem ValTo.at (h : ValTo w wr nodes rounds vs n k) {i : Nat} (hi : i < k) : ValAt wr w.heap.size i (nodes i) (rounds i) (vs i) :=
  ⟨h.done i hi 0 _ rfl, h.done i hi 1 _ rfl, h.done i hi 2 _ rfl⟩
end

/-- What ZZTowards finds in the memory. -/
structure ZIn (D : Nat → Prop) (w : World) (c : Nat) (ast af an ar av a0 a1 : Option Addr) (start frm nodes rounds vs : Nat → Int) (n0 n1 m n : Nat) : Prop where
  d0 : w.cell? ⟨c, 0, none⟩ = some (.slice a0 n n)
  d1 : w.cell? ⟨c, 1, none⟩ = some (.slice a1 n n)
  st : IsRow .i64 w ast n0 start
  fr : IsRow .i32 w af n1 frm
  no : IsRow .i32 w an m nodes
  ro : IsRow .i64 w ar m rounds
  va : IsRow .i8 w av m vs
  nc : ¬ D c
  ns : ∀ p, ast = some p → ¬ D p.block
  nf : ∀ p, af = some p → ¬ D p.block
  in0 : ∀ p, a0 = some p → D p.block
  in1 : ∀ p, a1 = some p → D p.block
  lt : ∀ k, D k → k < w.heap.size
  apart : ∀ p q, a0 = some p → a1 = some q → p.block ≠ q.block
  r0 : ∃ d, OwnRow 21 .i32 w a0 n d
  r1 : ∃ d, OwnRow 21 .i32 w a1 n d

set_option maxRecDepth 100000 in
set_option maxHeartbeats 1000000 in
theorem zz_towards (D : Nat → Prop) (c : Nat) (ast af an ar av a0 a1 : Option Addr) (start frm nodes rounds vs : Nat → Int) (round : Int) (n0 n1 m n : Nat) (w : World) (hZ : ZIn D w c ast af an ar av a0 a1 start frm nodes rounds vs n0 n1 m n) (hN : Nums start frm nodes vs n0 n1 m n) (G : Nat → Nat → Prop) (T : Nat → Nat → Prop) (hG : G = Arc start frm) (hT : T = fun v : Nat => Tgt nodes rounds vs round m (v : Int)) :
    Calls Try.prog 21 #[.slice ast n0 n0, .slice af n1 n1, .slice an m m, .slice ar m m, .slice av m m, .int .i64 round, .pointer (some ⟨c, 0, none⟩)] w
      fun e w' => e = .returned (.tuple #[]) ∧ Done D G T w w' a0 a1 n := by
  have hm := hN.hm
  obtain ⟨C, hC, hmk⟩ := make57 m hm
  have HZ := hide hZ
  have HN := hide hN
  have HG := hide hG
  have HT := hide hT
  clear hZ hN hG hT
  go_enter Try.func21, Try.ntmps21
  go_wp2
  go_loopw [15] (fun i wr => ∃ k : Nat, k ≤ m ∧ i = .int .i64 k ∧ ValTo w wr nodes rounds vs m k) (fun i _ => m - (intOf i).toNat)
  case atStart => exact ⟨0, Nat.zero_le _, rfl, ValTo.start w nodes rounds vs m C hC⟩
  case round =>
    obtain ⟨k, hk, rfl, vt⟩ := hrel
    clear hmk
    by_cases hlt : k < m
    · obtain ⟨b1, o1, rfl, hb1, c1⟩ := HZ.out.no (by omega)
      obtain ⟨b2, o2, rfl, hb2, c2⟩ := HZ.out.ro (by omega)
      obtain ⟨b3, o3, rfl, hb3, c3⟩ := HZ.out.va (by omega)
      have p1 := (vt.bel.cell (p := ⟨b1, o1 + k, none⟩) hb1).trans (c1 k hlt)
      have p2 := (vt.bel.cell (p := ⟨b2, o2 + k, none⟩) hb2).trans (c2 k hlt)
      have p3 := (vt.bel.cell (p := ⟨b3, o3 + k, none⟩) hb3).trans (c3 k hlt)
      have R := vt.step hlt
      have dth : wr.there w.heap.size (k * 3) 3 := fun j hj => by have := vt.th (k * 3 + j) (by omega); simpa using this
      generalize nodes k = x at *
      generalize rounds k = r at *
      generalize vs k = y at *
      have HR := hide R
      clear R vt c1 c2 c3
      go_upto_region 4 with (fail)
      refine region_tail 16 (by kernel_rfl) (by kernel_rfl) ?_
      simp only [List.take_succ_cons, List.take_zero, List.drop_succ_cons, List.drop_zero]
      repeat still_step
      refine wpStill_nil ?_
      clear p1 p2 p3
      refine wpList_store_mid (by rfl) 57 _ _ (by rfl) w.heap.size (k * 3) (outCells x r y).toArray (by rfl) (by rfl) (by exact dth) (by exact Try.size57) (out_one _ _ _) ?_
      generalize wr.drew.setCells w.heap.size (k * 3) (outCells x r y) = X at *
      go_wp2
      go_roundw
      case rel => exact ⟨k + 1, by omega, by go_num, HR.out⟩
      case measure => simp [intOf]; omega
    · obtain rfl : k = m := by omega
      obtain ⟨w1, rfl⟩ : ∃ w1 : World, w1 = wr := ⟨_, rfl⟩
      have HV := hide vt
      clear vt
      go_upto_region 6 with (fail)
      obtain ⟨w2, hw2, bel2, hv2⟩ : ∃ w2, w2 = w1.alloc (.cells #[.slice none 0 0, .slice (some ⟨w.heap.size, 0, none⟩) k k, .slice none 0 0, .slice none 0 0] 49) ∧ Below w1.heap.size w1 w2 ∧ w2.cell? ⟨w1.heap.size, 1, none⟩ = some (.slice (some ⟨w.heap.size, 0, none⟩) k k) := by
        have hb := heap_alloc_new w1 (.cells #[.slice none 0 0, .slice (some ⟨w.heap.size, 0, none⟩) k k, .slice none 0 0, .slice none 0 0] 49)
        exact ⟨_, rfl, (Below.refl _ _).alloc (Nat.le_refl _) _, by simp only [World.cell?, hb]; rfl⟩
      rw [← hw2]
      clear hw2
      have z1 := HV.out.size
      have belw : Below w.heap.size w w2 := HV.out.bel.trans (bel2.mono (by omega))
      have KW : Hid (Kept D w w2) := Kept.of_below belw
      have hS : Scene D w2 w1.heap.size c w.heap.size ast af a0 a1 start frm nodes rounds vs n0 n1 k n := by
        have z := HZ.out
        have hlt : ∀ {p : Addr} {v : Value}, w.cell? p = some v → p.block < w.heap.size := fun hv => World.block_lt_of_cell? w _ hv
        have hsz := belw.size
        refine ⟨hv2, (belw.cell (hlt z.d0)).trans z.d0, (belw.cell (hlt z.d1)).trans z.d1, z.st.below belw, z.fr.below belw, fun i hi => ?_, fun h => ?_, z.nc, fun h => ?_, z.ns, z.nf, fun p hp => ⟨z.in0 p hp, ?_⟩, fun p hp => ⟨z.in1 p hp, ?_⟩, z.apart⟩
        · obtain ⟨e0, e1, e2⟩ := HV.out.at hi
          exact ⟨(bel2.cell (by show w.heap.size < _; omega)).trans e0, (bel2.cell (by show w.heap.size < _; omega)).trans e1, (bel2.cell (by show w.heap.size < _; omega)).trans e2⟩
        · have := z.lt _ h; omega
        · have := z.lt _ h; omega
        · have := z.lt _ (z.in0 p hp); omega
        · have := z.lt _ (z.in1 p hp); omega
      have HC := hide (towards_any D w1.heap.size c w.heap.size ast af a0 a1 start frm nodes rounds vs round n0 n1 k n w2 (fun j hj => by have := HZ.out.lt j hj; have := belw.size; omega) hS HN.out
        (by obtain ⟨d, hd⟩ := HZ.out.r0; exact ⟨d, hd.below belw⟩) (by obtain ⟨d, hd⟩ := HZ.out.r1; exact ⟨d, hd.below belw⟩) G T HG.out HT.out)
      clear hS HZ HN HV belw bel2 hv2 HG HT z1
      go_wp2_with fail
      refine HC.out.mono ?_
      rintro e w3 ⟨rfl, hd⟩
      have FIN : Hid (Done D G T w w3 a0 a1 n) := ⟨KW.out.trans hd.kept, hd.r0, hd.r1⟩
      clear HC hd
      go_wp2
      go_end0
      exact ⟨rfl, FIN.out⟩
end Go.Proofs.Qxb6604786a
