/-
  The plain law: the greedy scan of a block scalar's indicators and the search over every split agree.
-/
import Derived.Test.Qxb6602024aRows
namespace Go.Proofs.Qxb6602024a

def wh (x : Int) : Bool := x == 32 || x == 9 || x == 11 || x == 12 || x == 13
def dig (x : Int) : Bool := decide (49 ≤ x) && decide (x ≤ 57)
def chomp (x : Int) : Bool := x == 45 || x == 43

/-- The white run that begins at i ends at j. -/
structure Run (f : Nat → Int) (n i j : Nat) : Prop where
  le : i ≤ j
  len : j ≤ n
  all : ∀ t, i ≤ t → t < j → wh (f t) = true
  stop : j < n → wh (f j) = false

theorem Run.unique {f : Nat → Int} {n i j j' : Nat} (h : Run f n i j) (h' : Run f n i j') : j = j' := by
  rcases Nat.lt_trichotomy j j' with hl | rfl | hl
  · have h1 := h'.all j h.le hl
    rw [h.stop (Nat.lt_of_lt_of_le hl h'.len)] at h1
    cases h1
  · rfl
  · have h1 := h.all j' h'.le hl
    rw [h'.stop (Nat.lt_of_lt_of_le hl h.len)] at h1
    cases h1

/-- White space to the line's end, or white space and a comment. -/
def Tail (f : Nat → Int) (n i : Nat) : Prop := ∃ j, Run f n i j ∧ (j = n ∨ (i < j ∧ f j = 35))

theorem Tail.of_run {f : Nat → Int} {n i j : Nat} (h : Run f n i j) : Tail f n i ↔ (j = n ∨ (i < j ∧ f j = 35)) := by
  constructor
  · rintro ⟨j', h', e⟩
    rw [h.unique h']
    exact e
  · exact fun e => ⟨j, h, e⟩

/-- Where a byte stands that is not white there is no tail. -/
theorem Tail.no {f : Nat → Int} {n i : Nat} (hi : i < n) (hw : wh (f i) = false) : ¬ Tail f n i := fun ⟨j, h, e⟩ => by
  have hj : j = i := by
    by_cases hlt : i < j
    · have := h.all i (Nat.le_refl _) hlt
      rw [hw] at this
      cases this
    · have := h.le; omega
  rcases e with e | ⟨e, _⟩ <;> omega

theorem dig_not {x : Int} (h : dig x = true) : wh x = false ∧ chomp x = false := by
  simp only [dig, Bool.and_eq_true, decide_eq_true_eq] at h
  constructor
  · simp only [wh, Bool.or_eq_false_iff, beq_eq_false_iff_ne]
    omega
  · simp only [chomp, Bool.or_eq_false_iff, beq_eq_false_iff_ne]
    omega
theorem chomp_not {x : Int} (h : chomp x = true) : wh x = false ∧ dig x = false := by
  simp only [chomp, Bool.or_eq_true, beq_iff_eq] at h
  constructor
  · simp only [wh, Bool.or_eq_false_iff, beq_eq_false_iff_ne]
    omega
  · simp only [dig, Bool.and_eq_false_iff, decide_eq_false_iff_not]
    omega

/-- The table of indicators: the first k bytes of g. -/
def ind (g : Nat → Int) (k : Nat) : Bool :=
  if k = 0 then true else if k = 1 then dig (g 0) || chomp (g 0) else if k = 2 then dig (g 0) && chomp (g 1) || chomp (g 0) && dig (g 1) else false

theorem ind_two {g : Nat → Int} {k : Nat} (h : ind g k = true) : k ≤ 2 := by
  unfold ind at h
  by_cases h0 : k = 0
  · omega
  by_cases h1 : k = 1
  · omega
  by_cases h2 : k = 2
  · omega
  rw [if_neg h0, if_neg h1, if_neg h2] at h
  cases h
theorem ind_0 (g : Nat → Int) : ind g 0 = true := rfl
theorem ind_1 (g : Nat → Int) : ind g 1 = (dig (g 0) || chomp (g 0)) := rfl
theorem ind_2 (g : Nat → Int) : ind g 2 = (dig (g 0) && chomp (g 1) || chomp (g 0) && dig (g 1)) := rfl
theorem ind_3 (g : Nat → Int) : ind g 3 = false := rfl

theorem or_not {x : Int} (h : (dig x || chomp x) = true) : wh x = false := by
  rcases Bool.or_eq_true _ _ ▸ h with h | h
  · exact (dig_not h).1
  · exact (chomp_not h).1

theorem ind_mid {g : Nat → Int} (h : ind g 2 = true) : ind g 1 = true ∧ wh (g 0) = false ∧ wh (g 1) = false := by
  rw [ind_2] at h
  rw [ind_1]
  simp only [Bool.or_eq_true, Bool.and_eq_true] at h
  rcases h with ⟨h0, h1⟩ | ⟨h0, h1⟩
  · exact ⟨by rw [h0]; rfl, (dig_not h0).1, (chomp_not h1).1⟩
  · exact ⟨by rw [h0]; simp, (chomp_not h0).1, (dig_not h1).1⟩

/-- The greedy scan has come to k. -/
structure Greedy (g : Nat → Int) (m k : Nat) : Prop where
  le : k ≤ m
  ok : ind g k = true
  stop : k < m → ind g (k + 1) = false

/-- THE LAW. 'f' from 'o' on is 'g'. -/
theorem split_law {f g : Nat → Int} {n o m k : Nat} (ho : o + m = n) (hg : ∀ t, t < m → g t = f (o + t)) (h : Greedy g m k) : Tail f n (o + k) ↔ ∃ k', k' ≤ 2 ∧ k' ≤ m ∧ ind g k' = true ∧ Tail f n (o + k') := by
  have h2 := ind_two h.ok
  constructor
  · exact fun e => ⟨k, h2, h.le, h.ok, e⟩
  · rintro ⟨k', h1, hm, hk, ht⟩
    have hk2 := h.le
    rcases Nat.lt_trichotomy k' k with hl | rfl | hl
    · exfalso
      have hw : wh (g k') = false := by
        rcases (by omega : (k' = 0 ∧ k = 1) ∨ (k' = 0 ∧ k = 2) ∨ (k' = 1 ∧ k = 2)) with ⟨rfl, rfl⟩ | ⟨rfl, rfl⟩ | ⟨rfl, rfl⟩
        · have := h.ok
          rw [ind_1] at this
          exact or_not this
        · exact (ind_mid h.ok).2.1
        · exact (ind_mid h.ok).2.2
      rw [hg k' (by omega)] at hw
      exact Tail.no (by omega) hw ht
    · exact ht
    · exfalso
      have hs := h.stop (by omega)
      rcases (by omega : k' = k + 1 ∨ (k = 0 ∧ k' = 2)) with rfl | ⟨rfl, rfl⟩
      · rw [hk] at hs; cases hs
      · rw [(ind_mid hk).1] at hs; cases hs

/-- The flags of the scan: a digit was seen, a sign was seen. -/
structure Flags (g : Nat → Int) (k : Nat) (b1 b2 : Bool) : Prop where
  ok : ind g k = true
  z : k = 0 → b1 = false ∧ b2 = false
  o : k = 1 → b1 = dig (g 0) ∧ b2 = chomp (g 0)
  t : k = 2 → b1 = true ∧ b2 = true

theorem Flags.start (g : Nat → Int) : Flags g 0 false false := ⟨rfl, fun _ => ⟨rfl, rfl⟩, (fun h => absurd h (by omega)), (fun h => absurd h (by omega))⟩
theorem Flags.digit {g : Nat → Int} {k : Nat} {b2 : Bool} (h : Flags g k false b2) (hd : dig (g k) = true) : Flags g (k + 1) true b2 := by
  have h2 := ind_two h.ok
  rcases (by omega : k = 0 ∨ k = 1 ∨ k = 2) with rfl | rfl | rfl
  · obtain ⟨_, rfl⟩ := h.z rfl
    exact ⟨by rw [ind_1, hd]; rfl, (fun e => absurd e (by omega)), fun _ => ⟨hd.symm, (dig_not hd).2.symm⟩, (fun e => absurd e (by omega))⟩
  · obtain ⟨e1, e2⟩ := h.o rfl
    have hc : chomp (g 0) = true := by
      have := h.ok
      rw [ind_1, ← e1] at this
      simpa using this
    refine ⟨?_, (fun e => absurd e (by omega)), (fun e => absurd e (by omega)), fun _ => ⟨rfl, e2.trans hc⟩⟩
    rw [ind_2, hc, hd]; simp
  · have := (h.t rfl).1
    cases this
theorem Flags.sign {g : Nat → Int} {k : Nat} {b1 : Bool} (h : Flags g k b1 false) (hc : chomp (g k) = true) : Flags g (k + 1) b1 true := by
  have h2 := ind_two h.ok
  rcases (by omega : k = 0 ∨ k = 1 ∨ k = 2) with rfl | rfl | rfl
  · obtain ⟨rfl, _⟩ := h.z rfl
    exact ⟨by rw [ind_1, hc]; simp, (fun e => absurd e (by omega)), fun _ => ⟨(chomp_not hc).2.symm, hc.symm⟩, (fun e => absurd e (by omega))⟩
  · obtain ⟨e1, e2⟩ := h.o rfl
    have hd : dig (g 0) = true := by
      have := h.ok
      rw [ind_1, ← e2] at this
      simpa using this
    refine ⟨?_, (fun e => absurd e (by omega)), (fun e => absurd e (by omega)), fun _ => ⟨e1.trans hd, rfl⟩⟩
    rw [ind_2, hc, hd]; simp
  · have := (h.t rfl).2
    cases this
theorem Flags.stop {g : Nat → Int} {k : Nat} {b1 b2 : Bool} (h : Flags g k b1 b2) (hd : b1 = true ∨ dig (g k) = false) (hc : b2 = true ∨ chomp (g k) = false) : ind g (k + 1) = false := by
  have h2 := ind_two h.ok
  rcases (by omega : k = 0 ∨ k = 1 ∨ k = 2) with rfl | rfl | rfl
  · obtain ⟨rfl, rfl⟩ := h.z rfl
    rw [ind_1]
    simp at hd hc
    rw [hd, hc]; rfl
  · obtain ⟨e1, e2⟩ := h.o rfl
    rw [ind_2]
    have e := h.ok
    rw [ind_1, ← e1, ← e2] at e
    rw [← e1, ← e2]
    cases b1 with
    | true =>
      have : b2 = false := by rw [e2]; exact (dig_not e1.symm).2
      subst this
      simp at hc
      rw [hc]; rfl
    | false =>
      simp at e hd
      subst e
      rw [hd]; rfl
  · exact ind_3 g

/-- What both functions answer, where sep + 1 < n. -/
def Header (f : Nat → Int) (n s : Nat) : Prop := f s = 58 ∧ wh (f (s + 1)) = true ∧ ∃ q, Run f n (s + 1) q ∧ q < n ∧ (f q = 124 ∨ f q = 62) ∧ ∃ k, k ≤ 2 ∧ k ≤ n - (q + 1) ∧ ind (fun t => f (q + 1 + t)) k = true ∧ Tail f n (q + 1 + k)

theorem Header.at {f : Nat → Int} {n s q : Nat} (h1 : f s = 58) (h2 : wh (f (s + 1)) = true) (hr : Run f n (s + 1) q) : Header f n s ↔ (q < n ∧ (f q = 124 ∨ f q = 62) ∧ ∃ k, k ≤ 2 ∧ k ≤ n - (q + 1) ∧ ind (fun t => f (q + 1 + t)) k = true ∧ Tail f n (q + 1 + k)) := by
  constructor
  · rintro ⟨_, _, q', hr', e⟩
    rw [hr.unique hr']
    exact e
  · exact fun e => ⟨h1, h2, q, hr, e⟩
theorem Header.greedy {f : Nat → Int} {n s q k : Nat} (h1 : f s = 58) (h2 : wh (f (s + 1)) = true) (hr : Run f n (s + 1) q) (hq : q < n) (hb : f q = 124 ∨ f q = 62) (hg : Greedy (fun t => f (q + 1 + t)) (n - (q + 1)) k) : Header f n s ↔ Tail f n (q + 1 + k) := by
  rw [Header.at h1 h2 hr, split_law (g := fun t => f (q + 1 + t)) (m := n - (q + 1)) (by omega) (fun _ _ => rfl) hg]
  exact ⟨fun e => e.2.2, fun e => ⟨hq, hb, e⟩⟩
end Go.Proofs.Qxb6602024a
