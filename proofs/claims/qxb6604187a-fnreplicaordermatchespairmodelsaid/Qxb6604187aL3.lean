import Derived.Test.Qxb6604187aR3
import Derived.Test.Qxb6604187aR4
namespace Go.Proofs.Qxb6604187a

/-- Who served an operation. -/
def krOf (o : OpR) : ByteArray × ByteArray := (o.key, o.repl)
/-- The highest version of the reads completed at the first t marks. -/
def hiS (ops : Nat → OpR) (S : Nat → Mk) : Nat → ByteArray × ByteArray → Option Int
  | 0, _ => .none
  | t + 1, x => if servedB (ops (S t).2.1) = true ∧ (S t).2.2 = true ∧ krOf (ops (S t).2.1) = x then some (max ((hiS ops S t x).getD 0) (ops (S t).2.1).ver) else hiS ops S t x
/-- What is noted behind the first t marks. -/
def fS (ops : Nat → OpR) (S : Nat → Mk) : Nat → Int
  | 0 => 0
  | t + 1 => if servedB (ops (S t).2.1) = true ∧ (S t).2.2 = false ∧ (ops (S t).2.1).ver < (hiS ops S t (krOf (ops (S t).2.1))).getD 0 then noteI (fS ops S t) (ops (S t).2.1).comp else fS ops S t

/-- Does w break the rule for r? -/
def wB (w r : OpR) : Bool := servedB w && decide (w.key = r.key) && decide (w.repl = r.repl) && !decide (w.comp = 0) && decide (w.comp < r.inv) && decide (r.ver < w.ver)
def brokenR (ops : Nat → OpR) (r : OpR) : Nat → Bool
  | 0 => false
  | i + 1 => brokenR ops r i || wB (ops i) r
/-- The pairwise model behind j rounds, over n operations. -/
def rTo (ops : Nat → OpR) (n : Nat) : Nat → Int
  | 0 => 0
  | j + 1 => if servedB (ops j) = true ∧ (ops j).comp ≠ 0 ∧ brokenR ops (ops j) n = true ∧ (rTo ops n j = 0 ∨ (ops j).comp < rTo ops n j) then (ops j).comp else rTo ops n j

theorem brokenR_iff (ops : Nat → OpR) (r : OpR) : ∀ n, brokenR ops r n = true ↔ ∃ i, i < n ∧ wB (ops i) r = true
  | 0 => by simp [brokenR]
  | n + 1 => by
    simp only [brokenR, Bool.or_eq_true, brokenR_iff ops r n]
    constructor
    · rintro (⟨i, hi, h⟩ | h)
      · exact ⟨i, by omega, h⟩
      · exact ⟨n, by omega, h⟩
    · rintro ⟨i, hi, h⟩
      rcases Nat.lt_succ_iff_lt_or_eq.1 hi with hi | rfl
      · exact Or.inl ⟨i, hi, h⟩
      · exact Or.inr h

/-! ### the least of some lines -/
/-- f is the least of c over B; 0 where B is empty. -/
structure IsLeast (f : Int) (B : Nat → Prop) (c : Nat → Int) : Prop where
  nz : ∀ i, B i → c i ≠ 0
  le : ∀ i, B i → f ≠ 0 ∧ f ≤ c i
  of : f ≠ 0 → ∃ i, B i ∧ f = c i

theorem IsLeast.unique {f g : Int} {B : Nat → Prop} {c : Nat → Int} (h : IsLeast f B c) (k : IsLeast g B c) : f = g := by
  by_cases hf : f = 0
  · by_cases hg : g = 0
    · omega
    · obtain ⟨i, hi, _⟩ := k.of hg
      exact absurd hf (h.le i hi).1
  · obtain ⟨i, hi, e⟩ := h.of hf
    have hk := k.le i hi
    obtain ⟨j, hj, e'⟩ := k.of hk.1
    have := (h.le j hj).2
    omega
theorem IsLeast.congr {f : Int} {B B' : Nat → Prop} {c : Nat → Int} (h : IsLeast f B c) (e : ∀ i, B' i ↔ B i) : IsLeast f B' c :=
  ⟨fun i hi => h.nz i ((e i).1 hi), fun i hi => h.le i ((e i).1 hi), fun hf => by obtain ⟨i, hi, q⟩ := h.of hf; exact ⟨i, (e i).2 hi, q⟩⟩
theorem IsLeast.note {f : Int} {B B' : Nat → Prop} {c : Nat → Int} (h : IsLeast f B c) {j : Nat} (hj : c j ≠ 0) (e : ∀ i, B' i ↔ B i ∨ i = j) : IsLeast (noteI f (c j)) B' c := by
  by_cases hc : f = 0 ∨ c j < f
  · rw [noteI_yes ⟨hj, hc⟩]
    refine ⟨fun i hi => ?_, fun i hi => ?_, fun _ => ⟨j, (e j).2 (Or.inr rfl), rfl⟩⟩
    · rcases (e i).1 hi with hi | rfl
      · exact h.nz i hi
      · exact hj
    · rcases (e i).1 hi with hi | rfl
      · have := h.le i hi
        exact ⟨hj, by omega⟩
      · exact ⟨hj, Int.le_refl _⟩
  · rw [noteI_no (fun q => hc q.2)]
    have h0 : f ≠ 0 := fun q => hc (Or.inl q)
    refine ⟨fun i hi => ?_, fun i hi => ?_, fun hf => ?_⟩
    · rcases (e i).1 hi with hi | rfl
      · exact h.nz i hi
      · exact hj
    · rcases (e i).1 hi with hi | rfl
      · exact h.le i hi
      · exact ⟨h0, by omega⟩
    · obtain ⟨i, hi, q⟩ := h.of hf
      exact ⟨i, (e i).2 (Or.inl hi), q⟩

/-- The operations that break the rule. -/
def BadR (ops : Nat → OpR) (n : Nat) (j : Nat) : Prop := servedB (ops j) = true ∧ (ops j).comp ≠ 0 ∧ brokenR ops (ops j) n = true

theorem rTo_least (ops : Nat → OpR) (n : Nat) : ∀ k, IsLeast (rTo ops n k) (fun j => j < k ∧ BadR ops n j) (fun j => (ops j).comp)
  | 0 => ⟨fun i hi => absurd hi.1 (Nat.not_lt_zero _), fun i hi => absurd hi.1 (Nat.not_lt_zero _), fun h => absurd rfl h⟩
  | k + 1 => by
    have ih := rTo_least ops n k
    by_cases hb : BadR ops n k
    · have e := ih.note (B' := fun j => j < k + 1 ∧ BadR ops n j) (j := k) hb.2.1 (fun i => by
        constructor
        · rintro ⟨h1, h2⟩
          rcases Nat.lt_succ_iff_lt_or_eq.1 h1 with h1 | rfl
          · exact Or.inl ⟨h1, h2⟩
          · exact Or.inr rfl
        · rintro (⟨h1, h2⟩ | rfl)
          · exact ⟨by omega, h2⟩
          · exact ⟨by omega, hb⟩)
      have e2 : rTo ops n (k + 1) = noteI (rTo ops n k) (ops k).comp := by
        obtain ⟨b1, b2, b3⟩ := hb
        simp only [rTo, noteI, b1, b3, true_and]
      rw [e2]
      exact e
    · have e2 : rTo ops n (k + 1) = rTo ops n k := by
        simp only [rTo]
        rw [if_neg (fun q => hb ⟨q.1, q.2.1, q.2.2.1⟩)]
      rw [e2]
      refine ih.congr (fun i => ?_)
      constructor
      · rintro ⟨h1, h2⟩
        rcases Nat.lt_succ_iff_lt_or_eq.1 h1 with h1 | rfl
        · exact ⟨h1, h2⟩
        · exact absurd h2 hb
      · rintro ⟨h1, h2⟩
        exact ⟨by omega, h2⟩

/-- What the running maximum says. -/
theorem hiS_iff {ops : Nat → OpR} {S : Nat → Mk} {v : Int} (hv : 0 ≤ v) (x : ByteArray × ByteArray) : ∀ t, v < (hiS ops S t x).getD 0 ↔ ∃ s, s < t ∧ servedB (ops (S s).2.1) = true ∧ (S s).2.2 = true ∧ krOf (ops (S s).2.1) = x ∧ v < (ops (S s).2.1).ver
  | 0 => by simp [hiS]; omega
  | t + 1 => by
    have ih := hiS_iff (ops := ops) (S := S) hv x t
    simp only [hiS]
    by_cases hc : servedB (ops (S t).2.1) = true ∧ (S t).2.2 = true ∧ krOf (ops (S t).2.1) = x
    · rw [if_pos hc]
      simp only [Option.getD_some]
      constructor
      · intro h
        by_cases h1 : v < (hiS ops S t x).getD 0
        · obtain ⟨s, hs, q⟩ := ih.1 h1
          exact ⟨s, by omega, q⟩
        · exact ⟨t, by omega, hc.1, hc.2.1, hc.2.2, by omega⟩
      · rintro ⟨s, hs, q1, q2, q3, q4⟩
        rcases Nat.lt_succ_iff_lt_or_eq.1 hs with hs | rfl
        · have := ih.2 ⟨s, hs, q1, q2, q3, q4⟩; omega
        · omega
    · rw [if_neg hc, ih]
      constructor
      · rintro ⟨s, hs, q⟩; exact ⟨s, by omega, q⟩
      · rintro ⟨s, hs, q1, q2, q3, q4⟩
        rcases Nat.lt_succ_iff_lt_or_eq.1 hs with hs | rfl
        · exact ⟨s, hs, q1, q2, q3, q4⟩
        · exact absurd ⟨q1, q2, q3⟩ hc

theorem mem_marks (ops : Nat → OpR) (m : Mk) : ∀ n, m ∈ marksTo ops n ↔ ∃ i, i < n ∧ (m = ((ops i).inv, i, false) ∨ ((ops i).comp ≠ 0 ∧ m = ((ops i).comp, i, true)))
  | 0 => by simp [marksTo]
  | n + 1 => by
    simp only [marksTo, List.mem_append, mem_marks ops m n, List.mem_singleton]
    constructor
    · rintro ((⟨i, hi, h⟩ | h) | h)
      · exact ⟨i, by omega, h⟩
      · exact ⟨n, by omega, Or.inl h⟩
      · split at h
        · cases h
        · rename_i hc
          exact ⟨n, by omega, Or.inr ⟨hc, by simpa using h⟩⟩
    · rintro ⟨i, hi, h⟩
      rcases Nat.lt_succ_iff_lt_or_eq.1 hi with hi | rfl
      · exact Or.inl (Or.inl ⟨i, hi, h⟩)
      · rcases h with h | ⟨h1, h2⟩
        · exact Or.inl (Or.inr h)
        · exact Or.inr (by rw [if_neg h1]; simpa using h2)

/-- What the law is told of the sorted marks. -/
structure SortedMarks (ops : Nat → OpR) (n N : Nat) (S : Nat → Mk) : Prop where
  mem : ∀ t, t < N → S t ∈ marksTo ops n
  all : ∀ m ∈ marksTo ops n, ∃ t, t < N ∧ S t = m
  lt : ∀ s t, s < t → t < N → (S s).1 < (S t).1

theorem fS_least {ops : Nat → OpR} {n N : Nat} {S : Nat → Mk} (h : SortedMarks ops n N S) (hv : ∀ i, i < n → 0 ≤ (ops i).ver) : ∀ t, t ≤ N → IsLeast (fS ops S t) (fun j => (∃ s, s < t ∧ S s = ((ops j).inv, j, false)) ∧ BadR ops n j) (fun j => (ops j).comp)
  | 0, _ => ⟨fun i hi => by obtain ⟨⟨s, hs, _⟩, _⟩ := hi; omega, fun i hi => by obtain ⟨⟨s, hs, _⟩, _⟩ := hi; omega, fun h => absurd rfl h⟩
  | t + 1, ht => by
    have ih := fS_least h hv t (by omega)
    obtain ⟨j, hj, hm⟩ := (mem_marks ops (S t) n).1 (h.mem t (by omega))
    rcases hm with hm | ⟨hc, hm⟩
    · have e1 : (S t).2.1 = j := by rw [hm]
      have e2 : (S t).2.2 = false := by rw [hm]
      have e3 : (S t).1 = (ops j).inv := by rw [hm]
      have key : (ops j).ver < (hiS ops S t (krOf (ops j))).getD 0 ↔ brokenR ops (ops j) n = true := by
        rw [hiS_iff (hv j hj), brokenR_iff]
        constructor
        · rintro ⟨s, hs, q1, q2, q3, q4⟩
          obtain ⟨i, hi, hmi⟩ := (mem_marks ops (S s) n).1 (h.mem s (by omega))
          rcases hmi with hmi | ⟨hci, hmi⟩
          · rw [hmi] at q2; cases q2
          · have hl := h.lt s t hs (by omega)
            rw [hmi, hm] at hl
            rw [hmi] at q1 q3 q4
            simp only [krOf, Prod.mk.injEq] at q1 q3 q4 hl
            refine ⟨i, hi, ?_⟩
            unfold wB
            simp [q1, q3.1, q3.2, hci, hl, q4]
        · rintro ⟨i, hi, hw⟩
          unfold wB at hw
          simp only [Bool.and_eq_true, Bool.not_eq_true', decide_eq_true_eq, decide_eq_false_iff_not] at hw
          obtain ⟨⟨⟨⟨⟨w1, w2⟩, w3⟩, w4⟩, w5⟩, w6⟩ := hw
          obtain ⟨s, hs, hms⟩ := h.all ((ops i).comp, i, true) ((mem_marks ops _ n).2 ⟨i, hi, Or.inr ⟨w4, rfl⟩⟩)
          have hst : s < t := by
            rcases Nat.lt_trichotomy s t with q | q | q
            · exact q
            · subst q; rw [hm] at hms; simp at hms
            · have hl := h.lt t s q hs
              rw [hms, hm] at hl
              simp only at hl
              omega
          refine ⟨s, hst, ?_⟩
          rw [hms]
          exact ⟨w1, rfl, by simp [krOf, w2, w3], w6⟩
      have hB : ∀ i, ((∃ s, s < t + 1 ∧ S s = ((ops i).inv, i, false)) ∧ BadR ops n i) ↔ ((∃ s, s < t ∧ S s = ((ops i).inv, i, false)) ∧ BadR ops n i) ∨ (i = j ∧ BadR ops n j) := fun i => by
        constructor
        · rintro ⟨⟨s, hs, q⟩, hb⟩
          rcases Nat.lt_succ_iff_lt_or_eq.1 hs with hs | rfl
          · exact Or.inl ⟨⟨s, hs, q⟩, hb⟩
          · rw [hm] at q
            simp only [Prod.mk.injEq] at q
            obtain ⟨_, rfl, _⟩ := q
            exact Or.inr ⟨rfl, hb⟩
        · rintro (⟨⟨s, hs, q⟩, hb⟩ | ⟨rfl, hb⟩)
          · exact ⟨⟨s, by omega, q⟩, hb⟩
          · exact ⟨⟨t, by omega, hm⟩, hb⟩
      simp only [fS, e1, e2, true_and]
      by_cases hs : servedB (ops j) = true ∧ brokenR ops (ops j) n = true
      · rw [if_pos ⟨hs.1, key.2 hs.2⟩]
        by_cases hc : (ops j).comp = 0
        · rw [noteI_no (fun q => q.1 hc)]
          refine ih.congr (fun i => (hB i).trans ?_)
          constructor
          · rintro (q | ⟨_, q⟩)
            · exact q
            · exact absurd hc q.2.1
          · exact Or.inl
        · exact ih.note (j := j) hc (fun i => (hB i).trans (by
            constructor
            · rintro (q | ⟨q, _⟩)
              · exact Or.inl q
              · exact Or.inr q
            · rintro (q | q)
              · exact Or.inl q
              · exact Or.inr ⟨q, hs.1, hc, hs.2⟩))
      · rw [if_neg (fun q => hs ⟨q.1, key.1 q.2⟩)]
        refine ih.congr (fun i => (hB i).trans ?_)
        constructor
        · rintro (q | ⟨_, q⟩)
          · exact q
          · exact absurd ⟨q.1, q.2.2⟩ hs
        · exact Or.inl
    · have e2 : (S t).2.2 = true := by rw [hm]
      have e4 : fS ops S (t + 1) = fS ops S t := by
        simp only [fS]
        rw [if_neg (fun q => by rw [e2] at q; cases q.2.1)]
      rw [e4]
      refine ih.congr (fun i => ?_)
      constructor
      · rintro ⟨⟨s, hs, q⟩, hb⟩
        rcases Nat.lt_succ_iff_lt_or_eq.1 hs with hs | rfl
        · exact ⟨⟨s, hs, q⟩, hb⟩
        · rw [hm] at q; simp at q
      · rintro ⟨⟨s, hs, q⟩, hb⟩
        exact ⟨⟨s, by omega, q⟩, hb⟩

/-- THE PLAIN LAW: the sweep over the sorted marks answers as the pairs do. -/
theorem f_is_r {ops : Nat → OpR} {n N : Nat} {S : Nat → Mk} (h : SortedMarks ops n N S) (hv : ∀ i, i < n → 0 ≤ (ops i).ver) : fS ops S N = rTo ops n n := by
  refine (fS_least h hv N (Nat.le_refl _)).unique ((rTo_least ops n n).congr (fun j => ?_))
  constructor
  · rintro ⟨⟨s, hs, q⟩, hb⟩
    obtain ⟨i, hi, hm⟩ := (mem_marks ops (S s) n).1 (h.mem s hs)
    rcases hm with hm | ⟨_, hm⟩
    · rw [hm] at q
      simp only [Prod.mk.injEq] at q
      exact ⟨by omega, hb⟩
    · rw [hm] at q; simp at q
  · rintro ⟨hj, hb⟩
    obtain ⟨t, ht, q⟩ := h.all _ ((mem_marks ops _ n).2 ⟨j, hj, Or.inl rfl⟩)
    exact ⟨⟨t, ht, q⟩, hb⟩
end Go.Proofs.Qxb6604187a
