/-
  The plain law of the check: the least distance over the arcs that were seen.
-/
import Derived.Test.Qxb6604786aL1
namespace Go.Proofs.Qxb6604786a

/-- b p is the least d x ≥ 0 over the arcs (x, p) in S, or -1. -/
def BestOf (n : Nat) (S : Nat → Nat → Prop) (d b : Nat → Int) : Prop :=
  ∀ p, p < n → (b p = -1 ∧ ∀ x, S x p → d x < 0) ∨ ((∃ x, S x p ∧ 0 ≤ d x ∧ b p = d x) ∧ ∀ x, S x p → 0 ≤ d x → b p ≤ d x)

section
variable {n : Nat} {S S' : Nat → Nat → Prop} {d b : Nat → Int}
theorem BestOf.start (h : ∀ p, p < n → b p = -1) (hS : ∀ x p, ¬ S x p) : BestOf n S d b := fun p hp => Or.inl ⟨h p hp, fun x hx => absurd hx (hS x p)⟩
/-- More arcs, but from states that do not count. -/
theorem BestOf.more (h : BestOf n S d b) (hS : ∀ x p, S x p → S' x p) (hS' : ∀ x p, S' x p → S x p ∨ d x < 0) : BestOf n S' d b := fun p hp => by
  rcases h p hp with ⟨h1, h2⟩ | ⟨⟨x, h1, h2, h3⟩, h4⟩
  · refine Or.inl ⟨h1, fun x hx => ?_⟩
    rcases hS' x p hx with hx | hx
    · exact h2 x hx
    · exact hx
  · refine Or.inr ⟨⟨x, hS x p h1, h2, h3⟩, fun y hy h0 => ?_⟩
    rcases hS' y p hy with hy | hy
    · exact h4 y hy h0
    · omega
/-- One arc more, from a state that counts, and better. -/
theorem BestOf.take {u p : Nat} (h : BestOf n S d b) (hd : 0 ≤ d u) (hb : b p < 0 ∨ d u < b p) (hS : ∀ x y, S' x y ↔ S x y ∨ (x = u ∧ y = p)) : BestOf n S' d (upd b p (d u)) := fun y hy => by
  by_cases e : y = p
  · subst e
    right
    rw [upd_same]
    refine ⟨⟨u, (hS u y).2 (Or.inr ⟨rfl, rfl⟩), hd, rfl⟩, fun x hx h0 => ?_⟩
    rcases (hS x y).1 hx with hx | ⟨rfl, _⟩
    · rcases h y hy with ⟨_, h2⟩ | ⟨⟨x', h1, h2, h3⟩, h4⟩
      · have := h2 x hx; omega
      · have := h4 x hx h0
        rcases hb with hb | hb <;> omega
    · exact Int.le_refl _
  · rw [upd_other _ _ e]
    rcases h y hy with ⟨h1, h2⟩ | ⟨⟨x, h1, h2, h3⟩, h4⟩
    · refine Or.inl ⟨h1, fun x hx => ?_⟩
      rcases (hS x y).1 hx with hx | ⟨_, e'⟩
      · exact h2 x hx
      · exact absurd e' e
    · refine Or.inr ⟨⟨x, (hS x y).2 (Or.inl h1), h2, h3⟩, fun z hz h0 => ?_⟩
      rcases (hS z y).1 hz with hz | ⟨_, e'⟩
      · exact h4 z hz h0
      · exact absurd e' e
/-- One arc more, no better. -/
theorem BestOf.leave {u p : Nat} (h : BestOf n S d b) (hb : 0 ≤ b p) (hb' : b p ≤ d u) (hS : ∀ x y, S' x y ↔ S x y ∨ (x = u ∧ y = p)) : BestOf n S' d b := fun y hy => by
  rcases h y hy with ⟨h1, h2⟩ | ⟨⟨x, h1, h2, h3⟩, h4⟩
  · refine Or.inl ⟨h1, fun x hx => ?_⟩
    rcases (hS x y).1 hx with hx | ⟨_, rfl⟩
    · exact h2 x hx
    · omega
  · refine Or.inr ⟨⟨x, (hS x y).2 (Or.inl h1), h2, h3⟩, fun z hz h0 => ?_⟩
    rcases (hS z y).1 hz with hz | ⟨rfl, rfl⟩
    · exact h4 z hz h0
    · exact hb'
theorem BestOf.congr (h : BestOf n S d b) (hS : ∀ x p, S' x p ↔ S x p) : BestOf n S' d b := fun p hp => by
  rcases h p hp with ⟨h1, h2⟩ | ⟨⟨x, h1, h2, h3⟩, h4⟩
  · exact Or.inl ⟨h1, fun x hx => h2 x ((hS x p).1 hx)⟩
  · exact Or.inr ⟨⟨x, (hS x p).2 h1, h2, h3⟩, fun y hy => h4 y ((hS y p).1 hy)⟩

variable {G : Nat → Nat → Prop} {T : Nat → Prop}
theorem BestOf.bound (h : BestOf n S d b) (hD : Dist n G T d) (hS : ∀ x p, S x p → x < n) {p : Nat} (hp : p < n) : -1 ≤ b p ∧ b p ≤ n := by
  rcases h p hp with ⟨h1, _⟩ | ⟨⟨x, h1, h2, h3⟩, _⟩
  · omega
  · have := hD.le x (hS x p h1)
    omega
theorem BestOf.none (h : BestOf n S d b) (hD : Dist n G T d) (hS : ∀ x p, x < n → G x p → S x p) {u : Nat} (hu : u < n) (hT : ¬ T u) (hb : b u < 0) : d u = -1 := by
  rcases h u hu with ⟨_, h2⟩ | ⟨⟨x, h1, h2, h3⟩, _⟩
  · exact hD.none u hu hT fun w hw hG => h2 w (hS w u hw hG)
  · omega
theorem BestOf.some (h : BestOf n S d b) (hD : Dist n G T d) (hS : ∀ x p, S x p ↔ x < n ∧ G x p) {u : Nat} (hu : u < n) (hT : ¬ T u) (hb : ¬ b u < 0) : d u = b u + 1 := by
  rcases h u hu with ⟨h1, _⟩ | ⟨⟨x, h1, h2, h3⟩, h4⟩
  · omega
  · obtain ⟨hx, hG⟩ := (hS x u).1 h1
    have h5 := hD.some u hu hT x hx hG h2
    obtain ⟨w, hw, hGw, h6, h7⟩ := hD.par u hu hT h5.1
    have := h4 w ((hS w u).2 ⟨hw, hGw⟩) h6
    omega
end
end Go.Proofs.Qxb6604786a
