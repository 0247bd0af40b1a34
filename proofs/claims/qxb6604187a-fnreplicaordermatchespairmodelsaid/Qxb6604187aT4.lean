import Derived.Test.Qxb6604187aT3
namespace Go.Proofs.Qxb6604187a
open Go.RowKit

/-- What an operation does to its key. -/
def effI (f : Int) (ab : Bool) : Int := if f = 4 then (if ab = true then 1 else 2) else f
theorem effI_far {f : Int} (h : ¬ f = 4) (ab : Bool) : effI f ab = f := by simp [effI, h]
theorem effI_yes : effI 4 true = 1 := by simp [effI]
theorem effI_no : effI 4 false = 2 := by simp [effI]
theorem ret_int {k : IntKind} {a b : Int} (h : a = b) : Ending.returned (.int k a) = .returned (.int k b) := by rw [h]

theorem str_eq {a b : ByteArray} (h : a = b) : (a.toList == b.toList) = true := by subst h; exact beq_self_eq_true _
theorem str_ne {a b : ByteArray} (h : ¬ a = b) : (a.toList == b.toList) = false := by
  rw [beq_eq_false_iff_ne, ByteArray.toList_eq, ByteArray.toList_eq]
  exact fun e => h (ByteArray.ext (Array.toList_inj.mp e))

/-- The nine cells of an operation that came in. -/
def opCells (o : OpR) : List Value := [.int .i64 o.proc, .int .i64 o.func, .string o.key, .int .i64 o.outcome, .int .i64 o.inv, .int .i64 o.comp, .int .u64 o.ver, .bool o.absent, .string o.repl]

set_option maxHeartbeats 400000 in
theorem effect_any (o : OpR) (pv : Addr) (w : World) :
    Calls Try.prog 31 #[.agg (histCells o pv).toArray] w fun e w' => e = .returned (.int .i64 (effI o.func o.absent)) ∧ Below w.heap.size w w' := by
  unfold histCells
  generalize o.func = f, o.absent = ab
  by_cases h4 : f = 4
  · subst h4
    cases ab
    · rw [effI_no]
      go_enter Try.func31, Try.ntmps31
      go_wp2
      go_ret
      exact ⟨rfl, (Below.refl _ _).alloc (Nat.le_refl _) _⟩
    · rw [effI_yes]
      go_enter Try.func31, Try.ntmps31
      go_wp2
      go_ret
      exact ⟨rfl, (Below.refl _ _).alloc (Nat.le_refl _) _⟩
  · rw [effI_far h4]
    have hb : (f != 4) = true := by simp [h4]
    clear h4
    go_enter Try.func31, Try.ntmps31
    go_wp2
    go_ret
    exact ⟨rfl, (Below.refl _ _).alloc (Nat.le_refl _) _⟩

set_option maxHeartbeats 400000 in
theorem effectOf_any (o : OpR) (w : World) :
    Calls Try.prog 25 #[.agg (opCells o).toArray] w fun e w' => e = .returned (.int .i64 (effI o.func o.absent)) ∧ Below w.heap.size w w' := by
  unfold opCells
  generalize o.func = f, o.absent = ab
  by_cases h4 : f = 4
  · subst h4
    cases ab
    · rw [effI_no]
      go_enter Try.func25, Try.ntmps25
      go_wp2
      go_ret
      exact ⟨rfl, (Below.refl _ _).alloc (Nat.le_refl _) _⟩
    · rw [effI_yes]
      go_enter Try.func25, Try.ntmps25
      go_wp2
      go_ret
      exact ⟨rfl, (Below.refl _ _).alloc (Nat.le_refl _) _⟩
  · rw [effI_far h4]
    have hb : (f != 4) = true := by simp [h4]
    clear h4
    go_enter Try.func25, Try.ntmps25
    go_wp2
    go_ret
    exact ⟨rfl, (Below.refl _ _).alloc (Nat.le_refl _) _⟩

/-- The least line noted so far. -/
def noteI (f l : Int) : Int := if l ≠ 0 ∧ (f = 0 ∨ l < f) then l else f
theorem noteI_yes {f l : Int} (h : l ≠ 0 ∧ (f = 0 ∨ l < f)) : noteI f l = l := by simp only [noteI, if_pos h]
theorem noteI_no {f l : Int} (h : ¬ (l ≠ 0 ∧ (f = 0 ∨ l < f))) : noteI f l = f := by simp only [noteI, if_neg h]

/-- w' is w but for the cell of block p, which holds f. -/
structure Noted (w w' : World) (p : Nat) (f : Int) : Prop where
  os : w'.os = w.os
  tape : w'.tape = w.tape
  output : w'.output = w.output
  size : w'.heap.size = w.heap.size
  block : ∀ b, b ≠ p → w'.heap[b]? = w.heap[b]?
  frozen : ∀ q, w'.frozen? ⟨p, q, none⟩ = w.frozen? ⟨p, q, none⟩
  cell : w'.cell? ⟨p, 0, none⟩ = some (.int .i64 f)

set_option maxHeartbeats 400000 in
theorem note_any (p : Nat) (f l : Int) (w : World) (hc : w.cell? ⟨p, 0, none⟩ = some (.int .i64 f)) (hf : w.frozen? ⟨p, 0, none⟩ = false) :
    Calls Try.prog 30 #[.pointer (some ⟨p, 0, none⟩), .int .i64 l] w fun e w' => e = .returned (.tuple #[]) ∧ Noted w w' p (noteI f l) := by
  have hno : Noted w w p f := ⟨rfl, rfl, rfl, rfl, fun _ _ => rfl, fun _ => rfl, hc⟩
  have hyes : Noted w (w.setCell ⟨p, 0, none⟩ (.int .i64 l)) p l :=
    ⟨rfl, rfl, rfl, by simp [World.setCell], fun b h => Below.heap_setCell _ _ _ _ h, fun q => World.frozen?_setCell _ _ _ _, World.cell?_setCell_same _ _ _ hc⟩
  obtain ⟨r, hr⟩ : ∃ r, r = noteI f l := ⟨_, rfl⟩
  rw [← hr]
  by_cases h0 : l = 0
  · obtain rfl : r = f := hr.trans (noteI_no (fun e => e.1 h0))
    clear hr
    have hb : (l != 0) = false := by simp [h0]
    clear h0
    go_enter Try.func30, Try.ntmps30
    go_wp2
    go_end0
    exact ⟨rfl, hno⟩
  have hb : (l != 0) = true := by simp [h0]
  by_cases h1 : f = 0
  · obtain rfl : r = l := hr.trans (noteI_yes ⟨h0, Or.inl h1⟩)
    clear hr h0 hno
    subst h1
    go_enter Try.func30, Try.ntmps30
    go_wp2
    go_end0
    exact ⟨rfl, hyes⟩
  have hb1 : (f == 0) = false := by simp [h1]
  by_cases h2 : l < f
  · obtain rfl : r = l := hr.trans (noteI_yes ⟨h0, Or.inr h2⟩)
    clear hr h0 hno h1
    go_enter Try.func30, Try.ntmps30
    go_wp2
    go_end0
    exact ⟨rfl, hyes⟩
  · obtain rfl : r = f := hr.trans (noteI_no (fun e => e.2.elim h1 h2))
    clear hr h0 hyes h1
    go_enter Try.func30, Try.ntmps30
    go_wp2
    go_end0
    exact ⟨rfl, hno⟩
end Go.Proofs.Qxb6604187a
