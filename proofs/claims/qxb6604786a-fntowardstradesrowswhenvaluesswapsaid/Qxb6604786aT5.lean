/-
  What towards keeps of the memory: all but the two rows and what it has laid itself is as it was.
-/
import Derived.Test.Qxb6604786aT4
namespace Go.Proofs.Qxb6604786a
open Go.RowKit

/-- The blocks that lay in w are as they were, but those in D. -/
structure Kept (D : Nat → Prop) (w w' : World) : Prop where
  os : w'.os = w.os
  tape : w'.tape = w.tape
  output : w'.output = w.output
  size : w.heap.size ≤ w'.heap.size
  block : ∀ k, k < w.heap.size → ¬ D k → w'.heap[k]? = w.heap[k]?

section
variable {D : Nat → Prop} {w w' w'' : World}
theorem Kept.refl (D : Nat → Prop) (w : World) : Kept D w w := ⟨rfl, rfl, rfl, Nat.le_refl _, fun _ _ _ => rfl⟩
theorem Kept.trans (h : Kept D w w') (k : Kept D w' w'') : Kept D w w'' :=
  ⟨k.os.trans h.os, k.tape.trans h.tape, k.output.trans h.output, Nat.le_trans h.size k.size, fun b hb hd => (k.block b (Nat.lt_of_lt_of_le hb h.size) hd).trans (h.block b hb hd)⟩
theorem Kept.of_below (h : Below w.heap.size w w') : Kept D w w' := ⟨h.os, h.tape, h.output, h.size, fun b hb _ => h.block b hb⟩
theorem Kept.alloc (h : Kept D w w') (o : Obj) : Kept D w (w'.alloc o) := h.trans (Kept.of_below ((Below.refl _ _).alloc (Nat.le_refl _) o))
theorem Kept.drewN (h : Kept D w w') (n : Nat) : Kept D w (w'.drewN n) := ⟨h.os, h.tape, h.output, h.size, h.block⟩
theorem Kept.set (h : Kept D w w') {p : Addr} (hp : D p.block ∨ w.heap.size ≤ p.block) (u : Value) : Kept D w (w'.setCell p u) :=
  ⟨h.os, h.tape, h.output, by have := h.size; simpa [World.setCell] using this, fun b hb hd => (Below.heap_setCell _ _ _ _ (fun e => by
    subst e
    rcases hp with hp | hp
    · exact hd hp
    · omega)).trans (h.block b hb hd)⟩
theorem Kept.grown {row : Option Nat} (h : Kept D w w') (hg : w'.grownBy w'' row) (hr : ∀ k, row = some k → w.heap.size ≤ k) : Kept D w w'' :=
  ⟨hg.os.trans h.os, hg.tape.trans h.tape, hg.output.trans h.output, Nat.le_trans h.size hg.size, fun b hb hd => (hg.block b (Nat.lt_of_lt_of_le hb h.size) (fun e => by
    have := hr b e.symm
    omega)).trans (h.block b hb hd)⟩
theorem Kept.cell (h : Kept D w w') {p : Addr} (hp : p.block < w.heap.size) (hd : ¬ D p.block) : w'.cell? p = w.cell? p := World.cell?_of_block (h.block _ hp hd)

theorem IsRow.kept {k : IntKind} {a : Option Addr} {n : Nat} {f : Nat → Int} (h : IsRow k w a n f) (hk : Kept D w w') (hd : ∀ p, a = some p → ¬ D p.block) : IsRow k w' a n f := fun hn => by
  obtain ⟨b, off, ha, hb, hc⟩ := h hn
  have hD : ¬ D b := hd _ ha
  exact ⟨b, off, ha, Nat.lt_of_lt_of_le hb hk.size, fun i hi => (hk.cell (p := ⟨b, off + i, none⟩) hb hD).trans (hc i hi)⟩
theorem OwnRow.kept {E : TypeId} {k : IntKind} {a : Option Addr} {n : Nat} {f : Nat → Int} (h : OwnRow E k w a n f) (hk : Kept D w w') (hd : ∀ p, a = some p → ¬ D p.block) : OwnRow E k w' a n f :=
  h.of_block fun p hp hl => hk.block _ hl (hd p hp)
end

/-- The queue's numbers as cells. -/
def qcells (q : List Nat) : List Value := q.map (fun u : Nat => Value.int .i32 (u : Int))

theorem own_none {w : World} {B : Nat} {e : TypeId} {qa : Option Addr} {l qc : Nat} {xs : List Value} (h : w.ownsRow B e 1 (.slice qa l qc) l xs) : w.ownsRow B e 1 (.slice qa 0 qc) 0 [] := by
  obtain ⟨_, ⟨hv, _⟩ | ⟨g, cap, cur, hv, hg, hh, h1, h2, h3, h4⟩⟩ := h
  · simp at hv
    obtain ⟨rfl, rfl, rfl⟩ := hv
    exact World.ownsRow_nil _ _ _ _
  · simp at hv
    obtain ⟨rfl, rfl⟩ := hv
    exact ⟨by simp, Or.inr ⟨g, qc, cur, rfl, hg, hh, Nat.zero_le _, h2, h3, by simp⟩⟩

theorem own_of_block {w w' : World} {B : Nat} {e : TypeId} {v : Value} {l : Nat} {xs : List Value} (h : w.ownsRow B e 1 v l xs) (hb : ∀ k, v.ownBlock = some k → w'.heap[k]? = w.heap[k]?) : w'.ownsRow B e 1 v l xs := by
  obtain ⟨h0, h1 | ⟨g, cap, cur, hv, hg, hh, h2⟩⟩ := h
  · exact ⟨h0, Or.inl h1⟩
  · exact ⟨h0, Or.inr ⟨g, cap, cur, hv, hg, (hb g (by rw [hv]; rfl)).trans hh, h2⟩⟩

/-- What the rounds of towards keep while they turn row a: W: the world at the call's beginning; wo: at the beginning of this row; ao: the other row. -/
structure RowInv (D : Nat → Prop) (W wo wr : World) (a ao : Option Addr) (n : Nat) (d : Nat → Int) (q : List Nat) (qa : Option Addr) (qc : Nat) : Prop where
  kept : Kept D W wr
  dn : ∀ p, a = some p → D p.block ∧ p.block < W.heap.size
  ne : ∀ p p', a = some p → ao = some p' → p.block ≠ p'.block
  oth : ∀ p, ao = some p → p.block < W.heap.size ∧ wr.heap[p.block]? = wo.heap[p.block]?
  row : OwnRow 21 .i32 wr a n d
  own : wr.ownsRow W.heap.size 21 1 (.slice qa q.length qc) q.length (qcells q)

section
variable {D : Nat → Prop} {W wo wr : World} {a ao : Option Addr} {n : Nat} {d : Nat → Int} {q : List Nat} {qa : Option Addr} {qc : Nat}
theorem RowInv.alloc (h : RowInv D W wo wr a ao n d q qa qc) (o : Obj) : RowInv D W wo (wr.alloc o) a ao n d q qa qc :=
  ⟨h.kept.alloc o, h.dn, h.ne, fun p hp => ⟨(h.oth p hp).1, (Below.heap_alloc _ _ _ (Nat.lt_of_lt_of_le (h.oth p hp).1 h.kept.size)).trans (h.oth p hp).2⟩, h.row.of_block fun _ _ hl => Below.heap_alloc _ _ _ hl, h.own.alloc o⟩
theorem RowInv.drewN (h : RowInv D W wo wr a ao n d q qa qc) (m : Nat) : RowInv D W wo (wr.drewN m) a ao n d q qa qc :=
  ⟨h.kept.drewN m, h.dn, h.ne, h.oth, h.row.of_block fun _ _ _ => rfl, own_of_block h.own fun _ _ => rfl⟩
theorem RowInv.get (h : RowInv D W wo wr a ao n d q qa qc) (hn : 0 < n) : ∃ g, a = some ⟨g, 0, none⟩ ∧ ∀ i, i < n → wr.cell? ⟨g, i, none⟩ = some (.int .i32 (d i)) ∧ wr.frozen? ⟨g, i, none⟩ = false := by
  rcases h.row with ⟨_, h0⟩ | ⟨g, ha, hr⟩
  · omega
  · exact ⟨g, ha, fun i hi => ⟨hr.cell hi, hr.frozen i⟩⟩
theorem RowInv.store {g : Nat} (h : RowInv D W wo wr (some ⟨g, 0, none⟩) ao n d q qa qc) (p : Nat) (x : Int) : RowInv D W wo (wr.setCell ⟨g, p, none⟩ (.int .i32 x)) (some ⟨g, 0, none⟩) ao n (upd d p x) q qa qc := by
  have hg := h.dn _ rfl
  refine ⟨h.kept.set (p := ⟨g, p, none⟩) (Or.inl hg.1) _, h.dn, h.ne, fun p' hp' => ⟨(h.oth p' hp').1, (Below.heap_setCell _ ⟨g, p, none⟩ _ _ (fun e => h.ne _ _ rfl hp' e.symm)).trans (h.oth p' hp').2⟩, ?_, own_of_block h.own fun k hk => Below.heap_setCell _ _ _ _ (fun e => ?_)⟩
  · rcases h.row with ⟨h0, _⟩ | ⟨g', ha, hr⟩
    · cases h0
    · cases ha
      refine Or.inr ⟨g, rfl, (hr.set p (.int .i32 x)).congr fun i _ => ?_⟩
      unfold upd
      by_cases e : i = p
      · simp [e]
      · simp [e]
  · have := (h.own.lt k hk).1
    have h2 := hg.2
    simp only at e h2
    omega
theorem RowInv.cut (h : RowInv D W wo wr a ao n d q qa qc) : RowInv D W wo wr a ao n d [] qa qc := ⟨h.kept, h.dn, h.ne, h.oth, h.row, own_none h.own⟩
theorem RowInv.congr {d' : Nat → Int} (h : RowInv D W wo wr a ao n d q qa qc) (e : ∀ i, i < n → d i = d' i) : RowInv D W wo wr a ao n d' q qa qc :=
  ⟨h.kept, h.dn, h.ne, h.oth, by
    rcases h.row with h0 | ⟨g, ha, hr⟩
    · exact Or.inl h0
    · exact Or.inr ⟨g, ha, hr.congr fun i hi => by rw [e i hi]⟩, h.own⟩
theorem RowInv.grown {w1 : World} {g' cap p : Nat} (h : RowInv D W wo wr a ao n d q qa qc) (hg : wr.grownBy w1 (Value.slice qa q.length qc).ownBlock)
    (hown : w1.ownsRow W.heap.size 21 1 (.slice (some ⟨g', 0, none⟩) (q.length + 1) cap) (q.length + 1) (qcells q ++ [.int .i32 (p : Int)])) : RowInv D W wo w1 a ao n d (q ++ [p]) (some ⟨g', 0, none⟩) cap := by
  have hq : ∀ k, (Value.slice qa q.length qc).ownBlock = some k → W.heap.size ≤ k := fun k hk => (h.own.lt k hk).1
  have same : ∀ k, k < W.heap.size → w1.heap[k]? = wr.heap[k]? := fun k hk => hg.block k (Nat.lt_of_lt_of_le hk h.kept.size) (fun e => by have := hq k e.symm; omega)
  refine ⟨h.kept.grown hg hq, h.dn, h.ne, fun p' hp' => ⟨(h.oth p' hp').1, (same _ (h.oth p' hp').1).trans (h.oth p' hp').2⟩, h.row.of_block fun p' hp' _ => same _ (h.dn p' hp').2, ?_⟩
  have e1 : (q ++ [p]).length = q.length + 1 := by simp
  have e2 : qcells (q ++ [p]) = qcells q ++ [.int .i32 (p : Int)] := by simp [qcells]
  rw [e1, e2]
  exact hown
theorem RowInv.queue (h : RowInv D W wo wr a ao n d q qa qc) {j u : Nat} (hj : q[j]? = some u) : ∃ g, qa = some ⟨g, 0, none⟩ ∧ W.heap.size ≤ g ∧ wr.cell? ⟨g, j, none⟩ = some (.int .i32 (u : Int)) := by
  obtain ⟨_, ⟨hv, h0⟩ | ⟨g, cap, cur, hv, hg, hh, h1, h2, h3, h4⟩⟩ := id h.own
  · have : q = [] := List.length_eq_zero_iff.1 h0
    subst this
    simp at hj
  · simp at hv
    obtain ⟨rfl, rfl⟩ := hv
    refine ⟨g, rfl, hg, ?_⟩
    have hl := (List.getElem?_eq_some_iff.1 hj).1
    rw [World.ownsRow.cellAt h.own j (by omega)]
    simp [qcells, hj]
end
end Go.Proofs.Qxb6604786a
