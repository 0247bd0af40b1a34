import Derived.Test.Qxb6604187aL1
namespace Go.Proofs.Qxb6604187a

/-- Does the earlier operation e break the rule for the later o? -/
def pairB (after : Int) (same higher : Bool) (e o : OpR) : Bool :=
  decide (e.outcome = 2) && decide (e.proc = o.proc) && decide (effI e.func e.absent = after) && (!same || decide (e.key = o.key)) && (decide (o.ver < e.ver) || (higher && decide (e.ver = o.ver)))
/-- Does one of the first i operations break the rule for o? -/
def brokenTo (after : Int) (same higher : Bool) (ops : Nat → OpR) (o : OpR) : Nat → Bool
  | 0 => false
  | i + 1 => brokenTo after same higher ops o i || pairB after same higher (ops i) o
/-- The pairwise model behind j rounds. -/
def mTo (after thn : Int) (same higher : Bool) (ops : Nat → OpR) : Nat → Int
  | 0 => 0
  | j + 1 =>
    if (ops j).outcome = 2 ∧ effI (ops j).func (ops j).absent = thn ∧ (ops j).comp ≠ 0 ∧ brokenTo after same higher ops (ops j) j = true ∧ (mTo after thn same higher ops j = 0 ∨ (ops j).comp < mTo after thn same higher ops j) then (ops j).comp
    else mTo after thn same higher ops j

theorem brokenTo_of {after : Int} {same higher : Bool} {ops : Nat → OpR} {o : OpR} {q : Nat} (h : pairB after same higher (ops q) o = true) : ∀ k, q < k → brokenTo after same higher ops o k = true
  | 0, hk => absurd hk (Nat.not_lt_zero _)
  | k + 1, hk => by
    simp only [brokenTo]
    rcases Nat.lt_succ_iff_lt_or_eq.1 hk with hk | rfl
    · rw [brokenTo_of h k hk]; rfl
    · rw [h]; simp
theorem brokenTo_no {after : Int} {same higher : Bool} {ops : Nat → OpR} {o : OpR} {q : Nat} (h0 : brokenTo after same higher ops o q = false) (h : pairB after same higher (ops q) o = false) : brokenTo after same higher ops o (q + 1) = false := by
  simp only [brokenTo, h0, h]; rfl

/-- What the running maximum says of the pairs. -/
theorem hi_broken {after : Int} {same higher : Bool} {ops : Nat → OpR} (o : OpR) : ∀ k, (∀ i, i < k → 0 ≤ (ops i).ver) →
    (brokenTo after same higher ops o k = match hiTo after same ops k (scopeOf same o) with | .none => false | some e => decide (o.ver < e) || (higher && decide (o.ver = e)))
      ∧ (∀ e, hiTo after same ops k (scopeOf same o) = some e → 0 ≤ e)
  | 0, _ => ⟨rfl, fun e h => by simp [hiTo] at h⟩
  | k + 1, h => by
    obtain ⟨ih, ih0⟩ := hi_broken (after := after) (same := same) (higher := higher) o k (fun i hi => h i (by omega))
    have h0 := h k (by omega)
    simp only [brokenTo, hiTo, ih]
    have hs : scopeOf same (ops k) = scopeOf same o ↔ ((ops k).proc = o.proc ∧ (same = true → (ops k).key = o.key)) := by
      unfold scopeOf
      cases same <;> simp
    by_cases hc : (ops k).outcome = 2 ∧ effI (ops k).func (ops k).absent = after ∧ scopeOf same (ops k) = scopeOf same o
    · rw [if_pos hc]
      obtain ⟨c1, c2, c3⟩ := hc
      obtain ⟨c4, c5⟩ := hs.1 c3
      refine ⟨?_, fun e he => by have := Option.some.inj he; omega⟩
      have hp : pairB after same higher (ops k) o = (decide (o.ver < (ops k).ver) || (higher && decide ((ops k).ver = o.ver))) := by
        unfold pairB
        cases same
        · simp [c1, c2, c4]
        · simp [c1, c2, c4, c5 rfl]
      rw [hp]
      cases hh : hiTo after same ops k (scopeOf same o) with
      | none => simp only [Option.getD_none, Int.max_eq_right h0]; cases higher <;> simp [eq_comm]
      | some e =>
        have he := ih0 e hh
        simp only [Option.getD_some]
        rw [Bool.eq_iff_iff]
        cases higher <;> simp <;> omega
    · rw [if_neg hc]
      refine ⟨?_, ih0⟩
      have hp : pairB after same higher (ops k) o = false := by
        unfold pairB
        cases same
        · simp only [Bool.not_false, Bool.true_or, Bool.and_true]
          by_cases c1 : (ops k).outcome = 2
          · by_cases c2 : effI (ops k).func (ops k).absent = after
            · by_cases c4 : (ops k).proc = o.proc
              · exact absurd ⟨c1, c2, hs.2 ⟨c4, by simp⟩⟩ hc
              · simp [c4]
            · simp [c2]
          · simp [c1]
        · by_cases c1 : (ops k).outcome = 2
          · by_cases c2 : effI (ops k).func (ops k).absent = after
            · by_cases c4 : (ops k).proc = o.proc
              · by_cases c5 : (ops k).key = o.key
                · exact absurd ⟨c1, c2, hs.2 ⟨c4, fun _ => c5⟩⟩ hc
                · simp [c5]
              · simp [c4]
            · simp [c2]
          · simp [c1]
      rw [hp, Bool.or_false]

/-- THE PLAIN LAW: the running maximum answers as the pairs do. -/
theorem f_is_m {after thn : Int} {same higher : Bool} {ops : Nat → OpR} : ∀ k, (∀ i, i < k → 0 ≤ (ops i).ver) → fTo after thn same higher ops k = mTo after thn same higher ops k
  | 0, _ => rfl
  | k + 1, h => by
    have ih := f_is_m (after := after) (thn := thn) (same := same) (higher := higher) (ops := ops) k (fun i hi => h i (by omega))
    have hb := (hi_broken (after := after) (same := same) (higher := higher) (ops := ops) (ops k) k (fun i hi => h i (by omega))).1
    simp only [fTo, mTo, ih, hb, brkB, brkE, noteI]
    generalize mTo after thn same higher ops k = m
    generalize effI (ops k).func (ops k).absent = E
    cases hh : hiTo after same ops k (scopeOf same (ops k)) with
    | none => simp
    | some e =>
      simp only [Bool.and_eq_true, decide_eq_true_eq]
      by_cases c1 : (ops k).outcome = 2
      · by_cases c2 : E = thn
        · by_cases c3 : (decide ((ops k).ver < e) || (higher && decide ((ops k).ver = e))) = true
          · simp [c1, c2, c3]
          · simp [c1, c2, c3]
        · simp [c2]
      · simp [c1]
end Go.Proofs.Qxb6604187a
