/-
  The slice of operations that came in, opened.
-/
import Derived.Test.Qxb6604187aT7
import Derived.ProofKit
import Derived.Deep.Slices
namespace Go.Proofs.Qxb6604187a
open Go.ChangeShapes Go.WideShapes Go.RowKit Go.Deep

theorem Try.cells50 : Try.prog.cellsOf 50 = 9 := by kernel_rfl
theorem Try.cells23 : Try.prog.cellsOf 23 = 1 := by kernel_rfl
theorem Try.cells4 : Try.prog.cellsOf 4 = 1 := by kernel_rfl

theorem nine {α : Type} {l : List α} (h : l.length = 9) : ∃ a0 a1 a2 a3 a4 a5 a6 a7 a8, l = [a0, a1, a2, a3, a4, a5, a6, a7, a8] := by
  match l, h with
  | [a0, a1, a2, a3, a4, a5, a6, a7, a8], _ => exact ⟨a0, a1, a2, a3, a4, a5, a6, a7, a8, rfl⟩

theorem op_open {H : Type} {enc : TypeId × Value → H} {w : World} {base n : Nat} {spare : Nat → Bool} {held : Bool} {cs : List Value} {x : DataW H × List MemPlace} (h : DataW.trod enc Try.prog w base spare held n 50 cs = some x) :
    ∃ o : OpR, cs = opCells o ∧ OpFine o := by
  obtain ⟨xs, m, _, _, hlen, hxs, hf⟩ := DataW.trod_struct Try.underlying50 h
  rw [Try.cells50] at hlen
  obtain ⟨a0, a1, a2, a3, a4, a5, a6, a7, a8, rfl⟩ := nine hlen
  have hx9 : xs.length = 9 := hxs
  have hx : ∀ i, i < 9 → ∃ y, xs[i]? = some y := fun i hi => ⟨xs[i]'(by omega), List.getElem?_eq_getElem (by omega)⟩
  have get : ∀ (i : Nat) (f : Field), i < 9 → _ → ∃ y, DataW.trod enc Try.prog w base spare held m f.type (([a0, a1, a2, a3, a4, a5, a6, a7, a8].drop f.offset).take (Try.prog.cellsOf f.type)) = some y := fun i f hi hfi => by
    obtain ⟨y, hy⟩ := hx i hi
    exact ⟨y, (hf i f hfi).trans hy⟩
  obtain ⟨y0, e0⟩ := get 0 _ (by omega) rfl
  obtain ⟨y1, e1⟩ := get 1 _ (by omega) rfl
  obtain ⟨y2, e2⟩ := get 2 _ (by omega) rfl
  obtain ⟨y3, e3⟩ := get 3 _ (by omega) rfl
  obtain ⟨y4, e4⟩ := get 4 _ (by omega) rfl
  obtain ⟨y5, e5⟩ := get 5 _ (by omega) rfl
  obtain ⟨y6, e6⟩ := get 6 _ (by omega) rfl
  obtain ⟨y7, e7⟩ := get 7 _ (by omega) rfl
  obtain ⟨y8, e8⟩ := get 8 _ (by omega) rfl
  obtain ⟨n0, q0, _, w0⟩ := DataW.trod_int Try.underlying3 e0
  obtain ⟨n1, q1, _, w1⟩ := DataW.trod_int Try.underlying3 e1
  obtain ⟨n2, q2, _, w2⟩ := DataW.trod_string Try.underlying9 e2
  obtain ⟨n3, q3, _, w3⟩ := DataW.trod_int Try.underlying3 e3
  obtain ⟨n4, q4, _, w4⟩ := DataW.trod_int Try.underlying3 e4
  obtain ⟨n5, q5, _, w5⟩ := DataW.trod_int Try.underlying3 e5
  obtain ⟨n6, q6, _, w6⟩ := DataW.trod_int Try.underlying23 e6
  obtain ⟨n7, q7, _⟩ := DataW.trod_bool Try.underlying4 e7
  obtain ⟨n8, q8, _, w8⟩ := DataW.trod_string Try.underlying9 e8
  simp [Try.cells3, Try.cells9, Try.cells23, Try.cells4] at q0 q1 q2 q3 q4 q5 q6 q7 q8
  subst q0 q1 q2 q3 q4 q5 q6 q7 q8
  exact ⟨⟨n0, n1, n2, n3, n4, n5, n6, n7, n8⟩, rfl, ⟨w0, w6, w2, w8, w4, w5⟩⟩

theorem ops_open {H : Type} {enc : TypeId × Value → H} {W : World} {a : Option Addr} {len cap : Nat} {d : DataW H} {p : List MemPlace} (h : DataW.Trod enc Try.prog W 0 (fun _ => true) true 22 (.slice a len cap) d p) :
    ∃ ops : Nat → OpR, IsOps W a len ops := by
  obtain ⟨fuel, hf⟩ := h
  have dflt : OpR := ⟨0, 0, ByteArray.empty, 0, 0, 0, 0, false, ByteArray.empty⟩
  rcases open_slice Try.underlying22 hf with ⟨hcs, _⟩ | ⟨x, l, c, m, n, D, Pl, hcs, _, hl, hm, hmm, _, hx⟩
  · simp [Value.cells] at hcs
    obtain ⟨rfl, rfl, rfl⟩ := hcs
    exact ⟨fun _ => dflt, Nat.zero_le _, fun i hi => absurd hi (Nat.not_lt_zero _), Or.inl rfl⟩
  · simp [Value.cells] at hcs
    obtain ⟨rfl, rfl, rfl⟩ := hcs
    simp at hmm
    subst hmm
    rw [Try.cells50] at hx
    have hex : ∀ i, ∃ o : OpR, i < len → W.cells? 0 (x.add (i * 9)) 9 = some (opCells o) ∧ OpFine o := fun i => by
      by_cases hi : i < len
      · obtain ⟨cs', h1, h2⟩ := hx i (by omega)
        obtain ⟨o, rfl, ho⟩ := op_open h2
        exact ⟨o, fun _ => ⟨h1, ho⟩⟩
      · exact ⟨dflt, fun h => absurd h hi⟩
    obtain ⟨ops, hops⟩ : ∃ ops : Nat → OpR, ∀ i, i < len → W.cells? 0 (x.add (i * 9)) 9 = some (opCells (ops i)) ∧ OpFine (ops i) := ⟨fun i => Classical.choose (hex i), fun i hi => Classical.choose_spec (hex i) hi⟩
    refine ⟨ops, by omega, fun i hi => (hops i hi).2, ?_⟩
    by_cases h0 : len = 0
    · exact Or.inl h0
    · right
      have cell : ∀ i j v, i < len → (opCells (ops i))[j]? = some v → W.cell? (x.add (i * 9 + j)) = some v := fun i j v hi hv => by
        obtain ⟨_, hlen, hc⟩ := World.cells?_some (hops i hi).1
        have hj : j < 9 := by have := (List.getElem?_eq_some_iff.1 hv).1; simpa [opCells] using this
        rw [← add_add, hc j hj, hv]
      have hsp : x.spot = none := by
        have h1 := cell 0 0 _ (by omega) rfl
        simp only [Nat.zero_mul, Nat.add_zero, Addr.add, if_true] at h1
        cases hs : x.spot with
        | none => rfl
        | some q => simp [World.cell?, hs] at h1; split at h1 <;> simp at h1
      obtain ⟨b, off, sp⟩ := x
      simp only at hsp
      subst hsp
      have cell' : ∀ i j v, i < len → (opCells (ops i))[j]? = some v → W.cell? ⟨b, off + i * 9 + j, none⟩ = some v := fun i j v hi hv => by
        have h1 := cell i j v hi hv
        rw [Addr.add_mid, ← Nat.add_assoc] at h1
        exact h1
      have hb : b < W.heap.size := World.block_lt_of_cell? W ⟨b, off + 0 * 9 + 0, none⟩ (cell' 0 0 _ (by omega) rfl)
      exact ⟨b, off, rfl, hb, fun i hi => ⟨cell' i 0 _ hi rfl, cell' i 1 _ hi rfl, cell' i 2 _ hi rfl, cell' i 3 _ hi rfl, cell' i 4 _ hi rfl, cell' i 5 _ hi rfl, cell' i 6 _ hi rfl, cell' i 7 _ hi rfl, cell' i 8 _ hi rfl⟩⟩
end Go.Proofs.Qxb6604187a
