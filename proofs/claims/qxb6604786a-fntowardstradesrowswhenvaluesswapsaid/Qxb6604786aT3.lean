import Derived.Test.Qxb6604786aT2
import Derived.Deep.OwnRows
import Derived.Lib.SliceRun
namespace Go.Proofs.Qxb6604786a
open Go.RowKit

theorem Try.info3 : (Try.prog.info? 3).map (fun i => (i.zero, i.size, i.bytes)) = some (some (.int .i64 0), 1, 8) := by kernel_rfl
theorem Try.info21 : (Try.prog.info? 21).map (fun i => (i.zero, i.size, i.bytes)) = some (some (.int .i32 0), 1, 4) := by kernel_rfl
theorem Try.info40 : (Try.prog.info? 40).map (fun i => (i.zero, i.size, i.bytes)) = some (some (.int .i8 0), 1, 1) := by kernel_rfl

/-- A row that is the call's own: nil, or a block of its own. -/
def OwnRow (E : TypeId) (k : IntKind) (w : World) (a : Option Addr) (n : Nat) (f : Nat → Int) : Prop :=
  (a = none ∧ n = 0) ∨ ∃ g, a = some ⟨g, 0, none⟩ ∧ w.rowIs g E n (fun i => .int k (f i))

theorem OwnRow.row {E : TypeId} {k : IntKind} {w : World} {a : Option Addr} {n : Nat} {f : Nat → Int} (h : OwnRow E k w a n f) : IsRow k w a n f := fun hn => by
  rcases h with ⟨_, h⟩ | ⟨g, ha, h⟩
  · omega
  · exact ⟨g, 0, ha, h.lt, fun i hi => by rw [Nat.zero_add]; exact h.cell hi⟩

theorem rowIs_setCells {b n : Nat} {t : TypeId} : ∀ (vs : List Value) (o : Nat) (w : World) (f : Nat → Value), w.rowIs b t n f → (w.setCells b o vs).rowIs b t n (fun j => if o ≤ j ∧ j < o + vs.length then vs[j - o]! else f j)
  | [], o, w, f, h => h.congr fun i _ => by rw [if_neg]; simp
  | v :: r, o, w, f, h => by
    rw [World.setCells]
    refine (rowIs_setCells r (o + 1) _ _ (h.set o v)).congr fun j _ => ?_
    by_cases h1 : o + 1 ≤ j ∧ j < o + 1 + r.length
    · rw [if_pos h1, if_pos (by simp; omega)]
      obtain ⟨m, hm⟩ : ∃ m, j - o = m + 1 := ⟨j - (o + 1), by omega⟩
      rw [hm, show j - (o + 1) = m by omega]
      simp
    · rw [if_neg h1]
      by_cases h2 : j = o
      · subst h2; simp
      · rw [if_neg h2, if_neg (by simp; omega)]

theorem heap_setCells (b : Nat) : ∀ (vs : List Value) (o : Nat) (w : World) (i : Nat), i ≠ b → (w.setCells b o vs).heap[i]? = w.heap[i]?
  | [], _, _, _, _ => rfl
  | v :: r, o, w, i, h => by
    rw [World.setCells, heap_setCells b r (o + 1) _ i h]
    exact Below.heap_setCell _ _ _ _ h
theorem size_setCells (b : Nat) : ∀ (vs : List Value) (o : Nat) (w : World), (w.setCells b o vs).heap.size = w.heap.size
  | [], _, _ => rfl
  | v :: r, o, w => by
    rw [World.setCells, size_setCells b r (o + 1) _]
    simp [World.setCell]
theorem rest_setCells (b : Nat) : ∀ (vs : List Value) (o : Nat) (w : World), (w.setCells b o vs).os = w.os ∧ (w.setCells b o vs).tape = w.tape ∧ (w.setCells b o vs).output = w.output
  | [], _, _ => ⟨rfl, rfl, rfl⟩
  | v :: r, o, w => by
    rw [World.setCells]
    exact rest_setCells b r (o + 1) _
theorem below_setCells {B : Nat} {a w : World} (h : Below B a w) {b : Nat} (hb : B ≤ b) (o : Nat) (vs : List Value) : Below B a (w.setCells b o vs) :=
  h.trans ⟨(rest_setCells b vs o w).1, (rest_setCells b vs o w).2.1, (rest_setCells b vs o w).2.2, by rw [size_setCells]; exact Nat.le_refl _, fun i hi => heap_setCells b vs o w i (by omega)⟩

/-- What a clone leaves. -/
structure Cloned (E : TypeId) (k : IntKind) (w w' : World) (a : Option Addr) (n : Nat) (f : Nat → Int) : Prop where
  row : OwnRow E k w' a n f
  bel : Below w.heap.size w w'
  ge : ∀ p, a = some p → w.heap.size ≤ p.block
def CloneSaid (E : TypeId) (k : IntKind) (w w' : World) (n : Nat) (f : Nat → Int) (e : Ending) : Prop := ∃ a, e = .returned (.slice a n n) ∧ Cloned E k w w' a n f

theorem copy_run {T E : TypeId} {k : IntKind} {a : Option Addr} {n c bytes : Nat} {f : Nat → Int} {w : World} (hu : Try.prog.underlying T = some (.slice E)) (hi : (Try.prog.info? E).map (fun i => (i.zero, i.size, i.bytes)) = some (some (.int k 0), 1, bytes)) (h : IsRow k w a n f) :
    ∃ w', (∀ ty, (Builtin.copy_ #[T, T] ty #[.slice (some ⟨w.heap.size, 0, none⟩) n n, .slice a n c]).run Try.prog (w.alloc (.cells (madeCells #[.int k 0] n) E)) = .ok (goInt n) w') ∧ Cloned E k w w' (some ⟨w.heap.size, 0, none⟩) n f := by
  have hsz : (Try.prog.info? E).map (·.size) = some 1 := by
    cases hq : Try.prog.info? E with
    | none => simp [hq] at hi
    | some i => simp [hq] at hi; simp [hi]
  have hb0 : Below w.heap.size w (w.alloc (.cells (madeCells #[.int k 0] n) E)) := (Below.refl _ _).alloc (Nat.le_refl _) _
  have hr0 := World.rowIs_made w (.int k 0) n E
  by_cases hn : n = 0
  · subst hn
    refine ⟨_, fun ty => run_copy_none _ T T ty E _ a 0 0 0 c hu hsz (by simp), ?_, hb0, fun p hp => by simp at hp; subst hp; exact Nat.le_refl _⟩
    exact Or.inr ⟨_, rfl, hr0.congr fun i hi => absurd hi (Nat.not_lt_zero _)⟩
  · obtain ⟨b, off, rfl, hb, hc⟩ := h (by omega)
    obtain ⟨cs, hcs⟩ : ∃ cs : List Value, cs = (List.range n).map (fun i => .int k (f i)) := ⟨_, rfl⟩
    have hlen : cs.length = n := by rw [hcs]; simp
    have hget : ∀ j, j < n → cs[j]? = some (.int k (f j)) := fun j hj => by rw [hcs]; simp [hj]
    have hr := fun ty => run_copy_cells (P := Try.prog) (w.alloc (.cells (madeCells #[.int k 0] n) E)) T T ty E w.heap.size 0 n n ⟨b, off, none⟩ n c cs hu hsz (by rw [hlen]; exact (Nat.min_self n).symm)
      (fun j v hv => by
        have hj : j < n := by rw [← hlen]; exact (List.getElem?_eq_some_iff.1 hv).1
        rw [Addr.add_mid, hb0.cell hb, hc j hj, ← hget j hj, hv])
      (fun j hj => by rw [Nat.zero_add, hr0.cell (by omega)]; rfl) (fun j _ => hr0.frozen _) (fun v hv => by rw [hcs] at hv; simp at hv; obtain ⟨i, _, rfl⟩ := hv; rfl)
    refine ⟨_, fun ty => by rw [hr ty, hlen], ?_, below_setCells hb0 (Nat.le_refl _) _ _, fun p hp => by simp at hp; subst hp; exact Nat.le_refl _⟩
    refine Or.inr ⟨_, rfl, (rowIs_setCells cs 0 _ _ hr0).congr fun i hi => ?_⟩
    rw [if_pos (by omega), Nat.sub_zero]
    exact List.getElem!_of_getElem? (hget i hi)

set_option maxRecDepth 100000 in
set_option maxHeartbeats 1000000 in
theorem clone17 (a : Option Addr) (n c : Nat) (f : Nat → Int) (w : World) (hn : n ≤ 65536) (h : IsRow .i64 w a n f) :
    Calls Try.prog 17 #[.slice a n c] w fun e w' => CloneSaid 3 .i64 w w' n f e := by
  have qT : ∀ (w : World) (a : Option Addr) (n c n' c' : Nat), (binOp .eql 25 (.slice a n c) (.slice none n' c')).run Try.prog w = .ok (.bool a.isNone) w := fun w a n c n' c' => Lib.run_eql_slice_nil w _ _ a n c n' c' Try.underlying25
  cases a with
  | none =>
    obtain rfl : n = 0 := by
      by_cases h0 : n = 0
      · exact h0
      · obtain ⟨b, off, hq, _⟩ := h (by omega)
        cases hq
    go_enter Try.func17, Try.ntmps17
    go_wp2
    go_ret
    exact ⟨none, rfl, Or.inl ⟨rfl, rfl⟩, Below.refl _ _, fun p hp => by cases hp⟩
  | some p =>
    have hmk := run_make_row' (P := Try.prog) 25 3 (.int .i64 0) 8 Try.underlying25 Try.info3 rfl .i64 .i64 n (by omega) (by omega)
    obtain ⟨w1, hcp, hcl⟩ := copy_run (c := c) Try.underlying25 Try.info3 h
    go_enter Try.func17, Try.ntmps17
    go_upto_region 4 with (fail)
    go_wp2_with (refine Lib.wpList_copy_run _ rfl _ _ 25 25 rfl _ _ rfl rfl (hcp _) ?_)
    go_ret
    exact ⟨_, rfl, hcl⟩

set_option maxRecDepth 100000 in
set_option maxHeartbeats 1000000 in
theorem clone18 (a : Option Addr) (n c : Nat) (f : Nat → Int) (w : World) (hn : n ≤ 65536) (h : IsRow .i32 w a n f) :
    Calls Try.prog 18 #[.slice a n c] w fun e w' => CloneSaid 21 .i32 w w' n f e := by
  have qT : ∀ (w : World) (a : Option Addr) (n c n' c' : Nat), (binOp .eql 22 (.slice a n c) (.slice none n' c')).run Try.prog w = .ok (.bool a.isNone) w := fun w a n c n' c' => Lib.run_eql_slice_nil w _ _ a n c n' c' Try.underlying22
  cases a with
  | none =>
    obtain rfl : n = 0 := by
      by_cases h0 : n = 0
      · exact h0
      · obtain ⟨b, off, hq, _⟩ := h (by omega)
        cases hq
    go_enter Try.func18, Try.ntmps18
    go_wp2
    go_ret
    exact ⟨none, rfl, Or.inl ⟨rfl, rfl⟩, Below.refl _ _, fun p hp => by cases hp⟩
  | some p =>
    have hmk := run_make_row' (P := Try.prog) 22 21 (.int .i32 0) 4 Try.underlying22 Try.info21 rfl .i64 .i64 n (by omega) (by omega)
    obtain ⟨w1, hcp, hcl⟩ := copy_run (c := c) Try.underlying22 Try.info21 h
    go_enter Try.func18, Try.ntmps18
    go_upto_region 4 with (fail)
    go_wp2_with (refine Lib.wpList_copy_run _ rfl _ _ 22 22 rfl _ _ rfl rfl (hcp _) ?_)
    go_ret
    exact ⟨_, rfl, hcl⟩

set_option maxRecDepth 100000 in
set_option maxHeartbeats 1000000 in
theorem clone19 (a : Option Addr) (n c : Nat) (f : Nat → Int) (w : World) (hn : n ≤ 65536) (h : IsRow .i8 w a n f) :
    Calls Try.prog 19 #[.slice a n c] w fun e w' => CloneSaid 40 .i8 w w' n f e := by
  have qT : ∀ (w : World) (a : Option Addr) (n c n' c' : Nat), (binOp .eql 31 (.slice a n c) (.slice none n' c')).run Try.prog w = .ok (.bool a.isNone) w := fun w a n c n' c' => Lib.run_eql_slice_nil w _ _ a n c n' c' Try.underlying31
  cases a with
  | none =>
    obtain rfl : n = 0 := by
      by_cases h0 : n = 0
      · exact h0
      · obtain ⟨b, off, hq, _⟩ := h (by omega)
        cases hq
    go_enter Try.func19, Try.ntmps19
    go_wp2
    go_ret
    exact ⟨none, rfl, Or.inl ⟨rfl, rfl⟩, Below.refl _ _, fun p hp => by cases hp⟩
  | some p =>
    have hmk := run_make_row' (P := Try.prog) 31 40 (.int .i8 0) 1 Try.underlying31 Try.info40 rfl .i64 .i64 n (by omega) (by omega)
    obtain ⟨w1, hcp, hcl⟩ := copy_run (c := c) Try.underlying31 Try.info40 h
    go_enter Try.func19, Try.ntmps19
    go_upto_region 4 with (fail)
    go_wp2_with (refine Lib.wpList_copy_run _ rfl _ _ 31 31 rfl _ _ rfl rfl (hcp _) ?_)
    go_ret
    exact ⟨_, rfl, hcl⟩

end Go.Proofs.Qxb6604786a
