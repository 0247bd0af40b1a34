/-
  The arguments, opened.
-/
import Derived.Test.Qxb6604786aT9
import Derived.ProofKit
import Derived.ChangeSlices
import Derived.OpenShut
namespace Go.Proofs.Qxb6604786a
open Go.ChangeShapes Go.WideShapes Go.RowKit

theorem Try.cells54 : Try.prog.cellsOf 54 = 2 := by kernel_rfl
theorem Try.cells22 : Try.prog.cellsOf 22 = 1 := by kernel_rfl

theorem row_open {H : Type} {enc : TypeId × Value → H} {W : World} {t e : TypeId} {k : IntKind} {a : Option Addr} {len cap fuel : Nat} {x : DataW H × List MemPlace} (ht : Try.prog.underlying t = some (.slice e)) (he : Try.prog.underlying e = some (.int k)) (hc : Try.prog.cellsOf e = 1)
    (h : DataW.trod enc Try.prog W 0 (fun _ => true) true fuel t [.slice a len cap] = some x) : ∃ f : Nat → Int, IsRow k W a len f ∧ len ≤ maxLen ∧ ∀ i, i < len → (Lit.int k (f i)).wf = true := by
  rcases open_ints ht he hc h with ⟨hcs, _⟩ | ⟨y, l, c, zs, hcs, _, hl, hm, hz, _, hcell, hwz⟩
  · simp at hcs
    obtain ⟨rfl, rfl, rfl⟩ := hcs
    exact ⟨fun _ => 0, fun h => absurd h (Nat.lt_irrefl _), Nat.zero_le _, fun i hi => absurd hi (Nat.not_lt_zero _)⟩
  · simp at hcs
    obtain ⟨rfl, rfl, rfl⟩ := hcs
    simp at hz
    refine ⟨fun i => zs.getD i 0, fun hn => ?_, by omega, fun i hi => ?_⟩
    · have hsp : y.spot = none := by
        have h1 := hcell 0 (by omega)
        simp only [Addr.add, if_true] at h1
        cases hs : y.spot with
        | none => rfl
        | some q => simp [World.cell?, hs] at h1; split at h1 <;> simp at h1
      obtain ⟨b, off, sp⟩ := y
      simp only at hsp
      subst hsp
      have cell' : ∀ i, i < zs.length → W.cell? ⟨b, off + i, none⟩ = some (.int k (zs.getD i 0)) := fun i hi => by
        have h1 := hcell i hi
        rw [Addr.add_mid] at h1
        exact h1
      exact ⟨b, off, rfl, World.block_lt_of_cell? W ⟨b, off + 0, none⟩ (cell' 0 (by omega)), fun i hi => cell' i (by omega)⟩
    · refine hwz _ ?_
      have hi' : i < zs.length := by omega
      simp [List.getD, hi']

theorem row_arg {H : Type} {enc : TypeId × Value → H} {W : World} {t e : TypeId} {k : IntKind} {a : Option Addr} {len cap : Nat} {d : DataW H} {p : List MemPlace} (ht : Try.prog.underlying t = some (.slice e)) (he : Try.prog.underlying e = some (.int k)) (hc : Try.prog.cellsOf e = 1)
    (h : DataW.Trod enc Try.prog W 0 (fun _ => true) true t (.slice a len cap) d p) : ∃ f : Nat → Int, IsRow k W a len f ∧ len ≤ maxLen ∧ ∀ i, i < len → (Lit.int k (f i)).wf = true := by
  obtain ⟨fuel, hf⟩ := h
  exact row_open (fuel := fuel) ht he hc (by simpa [Value.cells] using hf)

/-- The pointer to two rows. -/
def DistIn (W : World) (v : Value) : Prop := v = .pointer none ∨ ∃ b off b0 m0 e0 b1 m1 e1 f0 f1, v = .pointer (some ⟨b, off, none⟩) ∧ TwoRows W b off b0 b1 m0 e0 m1 e1 ∧ IsRow .i32 W b0 m0 f0 ∧ IsRow .i32 W b1 m1 f1 ∧ m0 ≤ maxLen ∧ m1 ≤ maxLen

theorem dist_open {H : Type} {enc : TypeId × Value → H} {W : World} {r : Reach} {b0 : Nat} {v : Value} {d : DataW H} {p : List MemPlace} (hval : Value.okWide Try.prog W r b0 32 v) (h : DataW.Trod enc Try.prog W 0 (fun _ => true) true 32 v d p) : DistIn W v := by
  rcases open_ptr Try.underlying32 (by rw [Try.cells54]; omega) hval h with ⟨rfl, _, _⟩ | ⟨b, off, cs, y, fuel, rfl, _, _, hlen, hcell, hy⟩
  · exact Or.inl rfl
  · right
    rw [Try.cells54] at hlen hcell
    match cs, hlen with
    | [u0, u1], _ =>
      obtain ⟨xs, m, _, _, _, hx, hf⟩ := DataW.trod_array Try.underlying54 hy
      rw [Try.cells22] at hf
      have g0 := hf 0 (by omega)
      have g1 := hf 1 (by omega)
      obtain ⟨x0, hx0⟩ : ∃ x0, xs[0]? = some x0 := ⟨xs[0]'(by omega), List.getElem?_eq_getElem (by omega)⟩
      obtain ⟨x1, hx1⟩ : ∃ x1, xs[1]? = some x1 := ⟨xs[1]'(by omega), List.getElem?_eq_getElem (by omega)⟩
      rw [hx0] at g0
      rw [hx1] at g1
      simp at g0 g1
      have s0 : ∃ a l c, u0 = .slice a l c := by
        rcases open_ints Try.underlying22 Try.underlying21 (by kernel_rfl) g0 with ⟨hcs, _⟩ | ⟨y, l, c, zs, hcs, _⟩
        · simp at hcs; exact ⟨_, _, _, hcs⟩
        · simp at hcs; exact ⟨_, _, _, hcs⟩
      have s1 : ∃ a l c, u1 = .slice a l c := by
        rcases open_ints Try.underlying22 Try.underlying21 (by kernel_rfl) g1 with ⟨hcs, _⟩ | ⟨y, l, c, zs, hcs, _⟩
        · simp at hcs; exact ⟨_, _, _, hcs⟩
        · simp at hcs; exact ⟨_, _, _, hcs⟩
      obtain ⟨q0, m0, e0, rfl⟩ := s0
      obtain ⟨q1, m1, e1, rfl⟩ := s1
      obtain ⟨f0, r0, l0, _⟩ := row_open Try.underlying22 Try.underlying21 (by kernel_rfl) g0
      obtain ⟨f1, r1, l1, _⟩ := row_open Try.underlying22 Try.underlying21 (by kernel_rfl) g1
      exact ⟨b, off, q0, m0, e0, q1, m1, e1, f0, f1, rfl, ⟨hcell 0 (by omega), hcell 1 (by omega)⟩, r0, r1, l0, l1⟩

theorem walk5 (a0 a1 a2 a3 a4 : Option Addr) (n0 c0 n1 c1 n2 c2 n3 c3 n4 c4 : Nat) (start frm nodes rounds vs : Nat → Int) (round : Int) (v : Value) (w : World) (hA : ArgsIn w a0 a1 a2 a3 a4 n0 n1 n2 n3 n4 start frm nodes rounds vs) (hv : DistIn w v) :
    Calls Try.prog 5 #[.slice a0 n0 c0, .slice a1 n1 c1, .slice a2 n2 c2, .slice a3 n3 c3, .slice a4 n4 c4, .int .i64 round, v] w fun e w' => e = .returned (.bool true) ∧ Below w.heap.size w w' := by
  rcases hv with rfl | ⟨b, off, b0, m0, e0, b1, m1, e1, f0, f1, rfl, hR, r0, r1, l0, l1⟩
  · exact walk5_nil a0 a1 a2 a3 a4 n0 c0 n1 c1 n2 c2 n3 c3 n4 c4 start frm nodes rounds vs round w hA
  · exact walk5_any a0 a1 a2 a3 a4 b0 b1 n0 c0 n1 c1 n2 c2 n3 c3 n4 c4 m0 e0 m1 e1 b off start frm nodes rounds vs f0 f1 round w hA l0 l1 hR r0 r1
end Go.Proofs.Qxb6604786a
