import Derived.Test.Qxb6604786aT3
namespace Go.Proofs.Qxb6604786a
open Go.RowKit

theorem OwnRow.of_block {E : TypeId} {k : IntKind} {w w' : World} {a : Option Addr} {n : Nat} {f : Nat → Int} (h : OwnRow E k w a n f) (hb : ∀ p, a = some p → p.block < w.heap.size → w'.heap[p.block]? = w.heap[p.block]?) : OwnRow E k w' a n f := by
  rcases h with h | ⟨g, rfl, h⟩
  · exact Or.inl h
  · exact Or.inr ⟨g, rfl, h.of_block (hb _ rfl h.lt)⟩
theorem OwnRow.below {E : TypeId} {k : IntKind} {w w' : World} {a : Option Addr} {n : Nat} {f : Nat → Int} (h : OwnRow E k w a n f) (hb : Below w.heap.size w w') : OwnRow E k w' a n f := h.of_block fun _ _ hl => hb.block _ hl
theorem OwnRow.lt {E : TypeId} {k : IntKind} {w : World} {a : Option Addr} {n : Nat} {f : Nat → Int} (h : OwnRow E k w a n f) : ∀ p, a = some p → p.block < w.heap.size := fun p hp => by
  rcases h with ⟨ha, _⟩ | ⟨g, ha, h⟩
  · rw [ha] at hp; cases hp
  · rw [ha] at hp; cases hp; exact h.lt

/-- What towardsCopy leaves: a block c of two slices, each a row of its own. -/
structure Copied (w w' : World) (c : Nat) (a0 a1 : Option Addr) (n : Nat) (f0 f1 : Nat → Int) : Prop where
  bel : Below w.heap.size w w'
  c0 : w'.cell? ⟨c, 0, none⟩ = some (.slice a0 n n)
  c1 : w'.cell? ⟨c, 1, none⟩ = some (.slice a1 n n)
  r0 : OwnRow 21 .i32 w' a0 n f0
  r1 : OwnRow 21 .i32 w' a1 n f1
  ge : w.heap.size ≤ c
  lt : c < w'.heap.size
  g0 : ∀ p, a0 = some p → c < p.block
  g1 : ∀ p, a1 = some p → c < p.block
  apart : ∀ p q, a0 = some p → a1 = some q → p.block < q.block
def CopySaid (w w' : World) (n : Nat) (f0 f1 : Nat → Int) (e : Ending) : Prop := ∃ c a0 a1, e = .returned (.pointer (some ⟨c, 0, none⟩)) ∧ Copied w w' c a0 a1 n f0 f1

/-- The new block of two slices. -/
structure Two (w W : World) (v0 v1 : Value) : Prop where
  bel : Below w.heap.size w W
  c0 : W.cell? ⟨w.heap.size, 0, none⟩ = some v0
  c1 : W.cell? ⟨w.heap.size, 1, none⟩ = some v1
  f0 : W.frozen? ⟨w.heap.size, 0, none⟩ = false
  f1 : W.frozen? ⟨w.heap.size, 1, none⟩ = false
  lt : w.heap.size < W.heap.size
theorem Two.start (w : World) (t : TypeId) (v0 v1 : Value) : Two w (w.alloc (.cells #[v0, v1] t)) v0 v1 := by
  have hb := heap_alloc_new w (.cells #[v0, v1] t)
  refine ⟨(Below.refl _ _).alloc (Nat.le_refl _) _, ?_, ?_, ?_, ?_, by simp⟩
  · simp only [World.cell?, hb]; rfl
  · simp only [World.cell?, hb]; rfl
  · simp only [World.frozen?, hb]; simp
  · simp only [World.frozen?, hb]; simp
theorem Two.below {w W W' : World} {v0 v1 : Value} (h : Two w W v0 v1) (hb : Below W.heap.size W W') : Two w W' v0 v1 := by
  have := hb.size
  exact ⟨h.bel.trans (hb.mono (Nat.le_of_lt h.lt)), (hb.cell h.lt).trans h.c0, (hb.cell h.lt).trans h.c1, (hb.frozen h.lt).trans h.f0, (hb.frozen h.lt).trans h.f1, Nat.lt_of_lt_of_le h.lt this⟩
theorem Two.set0 {w W : World} {v0 v1 : Value} (h : Two w W v0 v1) (v : Value) : Two w (W.setCell ⟨w.heap.size, 0, none⟩ v) v v1 :=
  ⟨h.bel.setCell (Nat.le_refl _) v, World.cell?_setCell_same _ _ _ h.c0, (World.cell?_setCell_other _ _ _ _ (by simp)).trans h.c1, (World.frozen?_setCell _ _ _ _).trans h.f0, (World.frozen?_setCell _ _ _ _).trans h.f1, by have := h.lt; simpa [World.setCell] using this⟩
theorem Two.set1 {w W : World} {v0 v1 : Value} (h : Two w W v0 v1) (v : Value) : Two w (W.setCell ⟨w.heap.size, 1, none⟩ v) v0 v :=
  ⟨h.bel.setCell (Nat.le_refl _) v, (World.cell?_setCell_other _ _ _ _ (by simp)).trans h.c0, World.cell?_setCell_same _ _ _ h.c1, (World.frozen?_setCell _ _ _ _).trans h.f0, (World.frozen?_setCell _ _ _ _).trans h.f1, by have := h.lt; simpa [World.setCell] using this⟩

/-- One clone in the midst of towardsCopy. -/
structure Half (w W w1 : World) (v0 v1 : Value) (b off n e : Nat) (b0 a : Option Addr) (f : Nat → Int) : Prop where
  two : Two w w1 v0 v1
  row : OwnRow 21 .i32 w1 a n f
  bel : Below W.heap.size W w1
  ge : ∀ p, a = some p → W.heap.size ≤ p.block
  c0 : w1.cell? ⟨w.heap.size, 0, none⟩ = some v0
  c1 : w1.cell? ⟨w.heap.size, 1, none⟩ = some v1
  z0 : w1.frozen? ⟨w.heap.size, 0, none⟩ = false
  z1 : w1.frozen? ⟨w.heap.size, 1, none⟩ = false
  src : w1.cell? ⟨b, off, none⟩ = some (.slice b0 n e)

theorem clone_at {w W : World} {v0 v1 : Value} {b off n e : Nat} {b0 : Option Addr} {f : Nat → Int} (hT : Two w W v0 v1) (hn : n ≤ 65536) (hb : b < w.heap.size) (hsrc : w.cell? ⟨b, off, none⟩ = some (.slice b0 n e)) (h : IsRow .i32 w b0 n f) :
    Calls Try.prog 18 #[.slice b0 n e] W.drew fun en w1 => ∃ a, en = .returned (.slice a n n) ∧ Half w W w1 v0 v1 b off n e b0 a f := by
  refine (clone18 b0 n e f W.drew hn (h.below hT.bel.drew)).mono ?_
  rintro en w1 ⟨a, rfl, hc⟩
  have bel : Below W.heap.size W w1 := ((Below.refl W.heap.size W).drew).trans hc.bel
  have t1 := hT.below bel
  exact ⟨a, rfl, t1, hc.row, bel, hc.ge, t1.c0, t1.c1, t1.f0, t1.f1, (t1.bel.cell hb).trans hsrc⟩

set_option maxRecDepth 100000 in
set_option maxHeartbeats 1000000 in
theorem copy_any (b off n e0 e1 : Nat) (b0 b1 : Option Addr) (f0 f1 : Nat → Int) (w : World) (hn : n ≤ 65536) (hR : TwoRows w b off b0 b1 n e0 n e1) (h0 : IsRow .i32 w b0 n f0) (h1 : IsRow .i32 w b1 n f1) :
    Calls Try.prog 20 #[.pointer (some ⟨b, off, none⟩)] w fun e w' => CopySaid w w' n f0 f1 e := by
  obtain ⟨r0, r1⟩ := hR
  have hb : b < w.heap.size := World.block_lt_of_cell? w ⟨b, off, none⟩ r0
  go_enter Try.func20, Try.ntmps20
  go_upto_region 2 with (fail)
  obtain ⟨W, hW, T0⟩ : ∃ W, W = w.alloc (.cells #[.slice none 0 0, .slice none 0 0] 54) ∧ Two w W (.slice none 0 0) (.slice none 0 0) := ⟨_, rfl, Two.start w 54 _ _⟩
  rw [← hW]
  clear hW
  have hne : w.heap.size ≠ b := by omega
  have p0 : W.cell? ⟨b, off, none⟩ = some (.slice b0 n e0) := (T0.bel.cell hb).trans r0
  have hcl := hide (clone_at T0 hn hb r0 h0)
  have HR1 := hide r1
  have H1 := hide h1
  have HT := hide T0
  clear r0 r1 h0 h1 T0
  go_region_held3 (fun W' => W'.cell? ⟨b, off, none⟩ = some (.slice b0 n e0)) (go_keep) (first | (go_at_call 18; refine hcl.out.mono ?_; rintro en w1 ⟨a0, rfl, hc⟩; have q0 := hc.c0; have q1 := hc.z0; have q2 := hc.src; have HC := hide hc; clear hc))
  rename_i hHeld
  have hlW := HT.out.lt
  have hlw := HC.out.bel.size
  have ge0 : Hid (∀ p, a0 = some p → w.heap.size < p.block ∧ p.block < w1.heap.size) := fun p hp => ⟨Nat.lt_of_lt_of_le hlW (HC.out.ge p hp), HC.out.row.lt p hp⟩
  obtain ⟨W2, hW2, T2, R0, hsz⟩ : ∃ W2, W2 = w1.setCell ⟨w.heap.size, 0, none⟩ (.slice a0 n n) ∧ Two w W2 (.slice a0 n n) (.slice none 0 0) ∧ OwnRow 21 .i32 W2 a0 n f0 ∧ W2.heap.size = w1.heap.size :=
    ⟨_, rfl, HC.out.two.set0 _, HC.out.row.of_block (fun p hp _ => Below.heap_setCell _ _ _ _ (by have := ge0.out p hp; show p.block ≠ w.heap.size; omega)), by simp [World.setCell]⟩
  rw [← hW2]
  clear hW2 hHeld HC hcl q0 q1 q2 p0
  have p0 : W2.cell? ⟨b, off + 1, none⟩ = some (.slice b1 n e1) := (T2.bel.cell hb).trans HR1.out
  have hcl := hide (clone_at T2 hn hb HR1.out H1.out)
  have HT2 := hide T2
  have HR0 := hide R0
  clear T2 R0
  go_upto_region 3 with (fail)
  go_region_held3 (fun W' => W'.cell? ⟨b, off + 1, none⟩ = some (.slice b1 n e1)) (go_keep) (first | (go_at_call 18; refine hcl.out.mono ?_; rintro en w3 ⟨a1, rfl, hc⟩; have q0 := hc.c1; have q1 := hc.z1; have q2 := hc.src; have HC := hide hc; clear hc))
  rename_i hHeld
  have FIN : Hid (Copied w (w3.setCell ⟨w.heap.size, 1, none⟩ (.slice a1 n n)) w.heap.size a0 a1 n f0 f1) := by
    have t := HC.out.two.set1 (.slice a1 n n)
    have l2 := HT2.out.lt
    have lt0 := HR0.out.lt
    refine ⟨t.bel, t.c0, t.c1, ?_, ?_, Nat.le_refl _, t.lt, fun p hp => (ge0.out p hp).1, fun p hp => Nat.lt_of_lt_of_le l2 (HC.out.ge p hp), fun p q hp hq => Nat.lt_of_lt_of_le (lt0 p hp) (HC.out.ge q hq)⟩
    · exact (HR0.out.below HC.out.bel).of_block (fun p hp _ => Below.heap_setCell _ _ _ _ (by have := ge0.out p hp; show p.block ≠ w.heap.size; omega))
    · exact HC.out.row.of_block (fun p hp _ => Below.heap_setCell _ _ _ _ (by have := HC.out.ge p hp; show p.block ≠ w.heap.size; omega))
  clear hHeld HC hcl q0 q1 q2 p0 HR0 HT2 HR1 H1 HT
  go_wp2
  go_ret
  exact ⟨_, a0, a1, rfl, FIN.out⟩
end Go.Proofs.Qxb6604786a
