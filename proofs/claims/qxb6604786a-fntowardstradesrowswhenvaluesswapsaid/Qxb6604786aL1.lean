/-
  The plain law: a breadth-first search backwards from some targets finds shortest distances.
-/
import Derived.Test.Qxb6604786aRows
namespace Go.Proofs.Qxb6604786a

theorem nodup_len : ∀ (n : Nat) (q : List Nat), q.Nodup → (∀ x ∈ q, x < n) → q.length ≤ n
  | 0, q, _, h => by
    cases q with
    | nil => exact Nat.le_refl _
    | cons x l => exact absurd (h x (by simp)) (Nat.not_lt_zero _)
  | n + 1, q, hn, h => by
    by_cases hm : n ∈ q
    · have h1 := nodup_len n (q.erase n) (hn.erase n) (fun x hx => by
        have hx' := (hn.mem_erase_iff).1 hx
        have := h x hx'.2
        omega)
      rw [List.length_erase_of_mem hm] at h1
      omega
    · have := nodup_len n q hn (fun x hx => by
        have := h x hx
        rcases Nat.lt_succ_iff_lt_or_eq.1 this with q1 | rfl
        · exact q1
        · exact absurd hx hm)
      omega

/-- One more cell of a row. -/
def upd (d : Nat → Int) (p : Nat) (v : Int) : Nat → Int := fun u => if u = p then v else d u
theorem upd_same (d : Nat → Int) (p : Nat) (v : Int) : upd d p v p = v := if_pos rfl
theorem upd_other (d : Nat → Int) {p u : Nat} (v : Int) (h : u ≠ p) : upd d p v u = d u := if_neg h

/-- THE SEARCH, in the midst of its work: d: the distances found; q: the queue; h: the place in it; seen: what has been looked at of q[h]'s list. G u p: p is in u's list. T: the targets. -/
structure Bfs (n : Nat) (G : Nat → Nat → Prop) (T : Nat → Prop) (d : Nat → Int) (q : List Nat) (h : Nat) (seen : Nat → Prop) : Prop where
  nodup : q.Nodup
  lt : ∀ u ∈ q, u < n
  mem : ∀ u ∈ q, 0 ≤ d u
  neg : ∀ u, u < n → u ∉ q → d u = -1
  mono : ∀ (i j : Nat) (hj : j < q.length) (hi : i ≤ j), d (q[i]'(by omega)) ≤ d q[j]
  top : ∀ (hh : h < q.length) (j : Nat) (hj : j < q.length), d q[j] ≤ d q[h] + 1
  bd : ∀ (j : Nat) (hj : j < q.length), d q[j] ≤ j
  tgt : ∀ u, u < n → T u → u ∈ q ∧ d u = 0
  par : ∀ u ∈ q, ¬ T u → ∃ w ∈ q, G w u ∧ d u = d w + 1
  done : ∀ (i : Nat) (hi : i < q.length), i < h → ∀ p, G q[i] p → p ∈ q ∧ d p ≤ d q[i] + 1
  cur : ∀ (hh : h < q.length) (p : Nat), seen p → p ∈ q ∧ d p ≤ d q[h] + 1

section
variable {n : Nat} {G : Nat → Nat → Prop} {T : Nat → Prop} {d : Nat → Int} {q : List Nat} {h : Nat} {seen : Nat → Prop}

theorem Bfs.len (b : Bfs n G T d q h seen) : q.length ≤ n := nodup_len n q b.nodup b.lt

/-- What is looked at next is in the queue already. -/
theorem Bfs.old (b : Bfs n G T d q h seen) (hh : h < q.length) {p : Nat} (hp : p < n) (hd : 0 ≤ d p) {seen' : Nat → Prop} (hs : ∀ x, seen' x → seen x ∨ x = p) : Bfs n G T d q h seen' := by
  have hm : p ∈ q := by
    by_cases hq : p ∈ q
    · exact hq
    · have := b.neg p hp hq; omega
  refine { b with cur := fun hh' x hx => ?_ }
  rcases hs x hx with hx | rfl
  · exact b.cur hh' x hx
  · obtain ⟨j, hj, rfl⟩ := List.getElem_of_mem hm
    exact ⟨hm, b.top hh j hj⟩

/-- What is looked at next is new: it is laid at the queue's end. -/
theorem Bfs.new (b : Bfs n G T d q h seen) (hh : h < q.length) {p : Nat} (hp : p < n) (hd : d p < 0) (hG : G q[h] p) {seen' : Nat → Prop} (hs : ∀ x, seen' x → seen x ∨ x = p) :
    Bfs n G T (upd d p (d q[h] + 1)) (q ++ [p]) h seen' := by
  have hnm : p ∉ q := fun hq => by have := b.mem p hq; omega
  have e : ∀ u ∈ q, upd d p (d q[h] + 1) u = d u := fun u hu => upd_other _ _ (fun e => hnm (e ▸ hu))
  have ge : ∀ (i : Nat) (hi : i < q.length), (q ++ [p])[i]'(by simp; omega) = q[i] := fun i hi => List.getElem_append_left hi
  have gl : ∀ (i : Nat) (hi : i < (q ++ [p]).length) (hn : ¬ i < q.length), (q ++ [p])[i] = p := fun i hi hn => by
    have : i = q.length := by simp at hi; omega
    subst this; simp
  have h0 := b.mem q[h] (List.getElem_mem hh)
  have hnp : ¬ T p := fun ht => hnm (b.tgt p hp ht).1
  refine ⟨?_, ?_, ?_, ?_, ?_, ?_, ?_, ?_, ?_, ?_, ?_⟩
  · exact List.nodup_append.2 ⟨b.nodup, by simp, fun x hx y hy => by simp at hy; subst hy; exact fun e => hnm (e ▸ hx)⟩
  · intro u hu
    rcases List.mem_append.1 hu with hu | hu
    · exact b.lt u hu
    · simp at hu; subst hu; exact hp
  · intro u hu
    rcases List.mem_append.1 hu with hu | hu
    · rw [e u hu]; exact b.mem u hu
    · simp at hu; subst hu; rw [upd_same]; omega
  · intro u hu hn
    simp only [List.mem_append, List.mem_singleton, not_or] at hn
    rw [upd_other _ _ hn.2]
    exact b.neg u hu hn.1
  · intro i j hj hi
    by_cases hjl : j < q.length
    · rw [ge j hjl, ge i (by omega), e _ (List.getElem_mem _), e _ (List.getElem_mem _)]
      exact b.mono i j hjl hi
    · rw [gl j hj hjl, upd_same]
      by_cases hil : i < q.length
      · rw [ge i hil, e _ (List.getElem_mem _)]
        exact b.top hh i hil
      · rw [gl i (by omega) hil, upd_same]
        exact Int.le_refl _
  · intro hh' j hj
    rw [ge h hh, e _ (List.getElem_mem _)]
    by_cases hjl : j < q.length
    · rw [ge j hjl, e _ (List.getElem_mem _)]
      exact b.top hh j hjl
    · rw [gl j hj hjl, upd_same]
      exact Int.le_refl _
  · intro j hj
    by_cases hjl : j < q.length
    · rw [ge j hjl, e _ (List.getElem_mem _)]
      exact b.bd j hjl
    · rw [gl j hj hjl, upd_same]
      have := b.bd h hh
      omega
  · intro u hu ht
    obtain ⟨h1, h2⟩ := b.tgt u hu ht
    exact ⟨List.mem_append_left _ h1, by rw [e u h1]; exact h2⟩
  · intro u hu hT
    rcases List.mem_append.1 hu with hu | hu
    · obtain ⟨w, hw, g, hd'⟩ := b.par u hu hT
      exact ⟨w, List.mem_append_left _ hw, g, by rw [e u hu, e w hw]; exact hd'⟩
    · simp at hu
      subst hu
      exact ⟨q[h], List.mem_append_left _ (List.getElem_mem hh), hG, by rw [upd_same, e _ (List.getElem_mem hh)]⟩
  · intro i hi hih x hx
    rw [ge i (by omega)] at hx ⊢
    obtain ⟨h1, h2⟩ := b.done i (by omega) hih x hx
    exact ⟨List.mem_append_left _ h1, by rw [e x h1, e _ (List.getElem_mem _)]; exact h2⟩
  · intro hh' x hx
    rw [ge h hh, e _ (List.getElem_mem _)]
    rcases hs x hx with hx | rfl
    · obtain ⟨h1, h2⟩ := b.cur hh x hx
      exact ⟨List.mem_append_left _ h1, by rw [e x h1]; exact h2⟩
    · exact ⟨by simp, by rw [upd_same]; exact Int.le_refl _⟩

/-- The list of q[h] is at its end: on to the next. -/
theorem Bfs.next (b : Bfs n G T d q h seen) (hh : h < q.length) (hs : ∀ p, G q[h] p → seen p) : Bfs n G T d q (h + 1) (fun _ => False) := by
  refine { b with top := fun hh' j hj => ?_, done := fun i hi hih p hp => ?_, cur := fun _ _ hx => hx.elim }
  · have h1 := b.top hh j hj
    have h2 := b.mono h (h + 1) hh' (by omega)
    omega
  · rcases Nat.lt_succ_iff_lt_or_eq.1 hih with hih | rfl
    · exact b.done i hi hih p hp
    · exact b.cur hh p (hs p hp)

/-- While the targets are laid: all that is found is 0. -/
structure Seeds (n : Nat) (d : Nat → Int) (q : List Nat) (T : Nat → Prop) : Prop where
  nodup : q.Nodup
  lt : ∀ u ∈ q, u < n
  zero : ∀ u ∈ q, d u = 0 ∧ T u
  neg : ∀ u, u < n → u ∉ q → d u = -1
  all : ∀ u, u < n → T u → u ∈ q

theorem Seeds.start (n : Nat) (d : Nat → Int) (T : Nat → Prop) (hd : ∀ u, u < n → d u = -1) (hT : ∀ u, ¬ T u) : Seeds n d [] T :=
  ⟨List.nodup_nil, (fun _ hu => absurd hu (List.not_mem_nil)), (fun _ hu => absurd hu (List.not_mem_nil)), fun u hu _ => hd u hu, fun u _ h => absurd h (hT u)⟩
theorem Seeds.skip {T' : Nat → Prop} (s : Seeds n d q T) (h : ∀ u, u < n → (T' u ↔ T u)) : Seeds n d q T' :=
  ⟨s.nodup, s.lt, fun u hu => ⟨(s.zero u hu).1, (h u (s.lt u hu)).2 (s.zero u hu).2⟩, s.neg, fun u hu ht => s.all u hu ((h u hu).1 ht)⟩
theorem Seeds.old {T' : Nat → Prop} {p : Nat} (s : Seeds n d q T) (hp : p < n) (hd : 0 ≤ d p) (h : ∀ u, T' u ↔ T u ∨ u = p) : Seeds n d q T' := by
  have hm : p ∈ q := by
    by_cases hq : p ∈ q
    · exact hq
    · have := s.neg p hp hq; omega
  refine ⟨s.nodup, s.lt, fun u hu => ⟨(s.zero u hu).1, (h u).2 (Or.inl (s.zero u hu).2)⟩, s.neg, fun u hu ht => ?_⟩
  rcases (h u).1 ht with ht | rfl
  · exact s.all u hu ht
  · exact hm
theorem Seeds.new {T' : Nat → Prop} {p : Nat} (s : Seeds n d q T) (hp : p < n) (hd : d p < 0) (h : ∀ u, T' u ↔ T u ∨ u = p) : Seeds n (upd d p 0) (q ++ [p]) T' := by
  have hnm : p ∉ q := fun hq => by have := (s.zero p hq).1; omega
  have e : ∀ u ∈ q, upd d p 0 u = d u := fun u hu => upd_other _ _ (fun e => hnm (e ▸ hu))
  refine ⟨?_, ?_, ?_, ?_, ?_⟩
  · exact List.nodup_append.2 ⟨s.nodup, by simp, fun x hx y hy => by simp at hy; subst hy; exact fun e => hnm (e ▸ hx)⟩
  · intro u hu
    rcases List.mem_append.1 hu with hu | hu
    · exact s.lt u hu
    · simp at hu; subst hu; exact hp
  · intro u hu
    rcases List.mem_append.1 hu with hu | hu
    · rw [e u hu]; exact ⟨(s.zero u hu).1, (h u).2 (Or.inl (s.zero u hu).2)⟩
    · simp at hu; subst hu; exact ⟨upd_same _ _ _, (h u).2 (Or.inr rfl)⟩
  · intro u hu hn
    simp only [List.mem_append, List.mem_singleton, not_or] at hn
    rw [upd_other _ _ hn.2]
    exact s.neg u hu hn.1
  · intro u hu ht
    rcases (h u).1 ht with ht | rfl
    · exact List.mem_append_left _ (s.all u hu ht)
    · simp

theorem Seeds.len (s : Seeds n d q T) : q.length ≤ n := nodup_len n q s.nodup s.lt
/-- The targets are laid: the search begins. -/
theorem Seeds.bfs (s : Seeds n d q T) : Bfs n G T d q 0 (fun _ => False) := by
  have z : ∀ (j : Nat) (hj : j < q.length), d q[j] = 0 := fun j hj => (s.zero _ (List.getElem_mem hj)).1
  refine ⟨s.nodup, s.lt, fun u hu => by rw [(s.zero u hu).1]; exact Int.le_refl _, s.neg, fun i j hj hi => by rw [z i (by omega), z j hj]; exact Int.le_refl _, fun hh j hj => by rw [z j hj, z 0 hh]; omega, fun j hj => by rw [z j hj]; omega,
    fun u hu ht => ⟨s.all u hu ht, (s.zero u (s.all u hu ht)).1⟩, fun u hu hT => absurd (s.zero u hu).2 hT, fun i hi h0 => absurd h0 (Nat.not_lt_zero _), fun _ _ hx => hx.elim⟩

/-- WHAT A ROW OF DISTANCES IS. -/
structure Dist (n : Nat) (G : Nat → Nat → Prop) (T : Nat → Prop) (d : Nat → Int) : Prop where
  tgt : ∀ u, u < n → T u → d u = 0
  none : ∀ u, u < n → ¬ T u → (∀ w, w < n → G w u → d w < 0) → d u = -1
  some : ∀ u, u < n → ¬ T u → ∀ w, w < n → G w u → 0 ≤ d w → 0 ≤ d u ∧ d u ≤ d w + 1
  par : ∀ u, u < n → ¬ T u → 0 ≤ d u → ∃ w, w < n ∧ G w u ∧ 0 ≤ d w ∧ d u = d w + 1
  ge : ∀ u, u < n → -1 ≤ d u
  le : ∀ u, u < n → d u ≤ n

/-- The search has come to its end. -/
theorem Bfs.dist (b : Bfs n G T d q h seen) (hh : q.length ≤ h) : Dist n G T d := by
  have hq : ∀ u, u < n → 0 ≤ d u → u ∈ q := fun u hu hd => by
    by_cases hm : u ∈ q
    · exact hm
    · have := b.neg u hu hm; omega
  refine ⟨fun u hu ht => (b.tgt u hu ht).2, fun u hu hT hn => ?_, fun u hu hT w hw hG hd => ?_, fun u hu hT hd => ?_, fun u hu => ?_, fun u hu => ?_⟩
  · by_cases hm : u ∈ q
    · obtain ⟨w, hw, hG, _⟩ := b.par u hm hT
      have h1 := hn w (b.lt w hw) hG
      have h2 := b.mem w hw
      omega
    · exact b.neg u hu hm
  · obtain ⟨i, hi, rfl⟩ := List.getElem_of_mem (hq w hw hd)
    obtain ⟨h1, h2⟩ := b.done i hi (by omega) u hG
    exact ⟨b.mem u h1, h2⟩
  · obtain ⟨w, hw, hG, e⟩ := b.par u (hq u hu hd) hT
    exact ⟨w, b.lt w hw, hG, b.mem w hw, e⟩
  · by_cases hm : u ∈ q
    · have := b.mem u hm; omega
    · have := b.neg u hu hm; omega
  · by_cases hm : u ∈ q
    · obtain ⟨i, hi, rfl⟩ := List.getElem_of_mem hm
      have h1 := b.bd i hi
      have h2 := b.len
      omega
    · have := b.neg u hu hm; omega
end

/-- There is only one such row. -/
theorem Dist.unique {n : Nat} {G : Nat → Nat → Prop} {T T' : Nat → Prop} {d d' : Nat → Int} (hT : ∀ u, u < n → (T u ↔ T' u)) (h : Dist n G T d) (h' : Dist n G T' d') : ∀ u, u < n → d u = d' u := by
  have key : ∀ (T T' : Nat → Prop) (d d' : Nat → Int), (∀ u, u < n → (T u ↔ T' u)) → Dist n G T d → Dist n G T' d' → ∀ (m : Nat) (u : Nat), u < n → d u = m → 0 ≤ d' u ∧ d' u ≤ m := by
    intro T T' d d' hT h h' m
    induction m with
    | zero =>
      intro u hu hd
      by_cases ht : T u
      · rw [h'.tgt u hu ((hT u hu).1 ht)]; omega
      · obtain ⟨w, hw, hG, h0, e⟩ := h.par u hu ht (by omega)
        omega
    | succ m ih =>
      intro u hu hd
      by_cases ht : T u
      · rw [h'.tgt u hu ((hT u hu).1 ht)]; omega
      · obtain ⟨w, hw, hG, h0, e⟩ := h.par u hu ht (by omega)
        obtain ⟨i1, i2⟩ := ih w hw (by omega)
        have := h'.some u hu (fun q => ht ((hT u hu).2 q)) w hw hG i1
        omega
  intro u hu
  by_cases h1 : 0 ≤ d u
  · obtain ⟨a, b⟩ := key T T' d d' hT h h' (d u).toNat u hu (by omega)
    obtain ⟨a', b'⟩ := key T' T d' d (fun u hu => (hT u hu).symm) h' h (d' u).toNat u hu (by omega)
    omega
  · by_cases h2 : 0 ≤ d' u
    · obtain ⟨a', b'⟩ := key T' T d' d (fun u hu => (hT u hu).symm) h' h (d' u).toNat u hu (by omega)
      omega
    · have := h.ge u hu
      have := h'.ge u hu
      omega
end Go.Proofs.Qxb6604786a
