import Derived.Test.Qxb6604187aT6
namespace Go.Proofs.Qxb6604187a
open Go.RowKit
attribute [local go_sem] World.cell?_alloc_some

/-- An ok read that names its replica. -/
def servedB (o : OpR) : Bool := decide (o.outcome = 2) && decide (effI o.func o.absent = 1) && !decide (o.repl = ByteArray.empty)

theorem str_eq_nil {a : ByteArray} (h : a = ByteArray.empty) : a.toList.isEmpty = true := by subst h; rw [ByteArray.toList_eq]; rfl
theorem str_ne_nil {a : ByteArray} (h : ¬ a = ByteArray.empty) : a.toList.isEmpty = false := by
  rw [ByteArray.toList_eq]
  cases ha : a.data.toList with
  | nil => exact absurd (ByteArray.ext (Array.toList_inj.mp (by rw [ha]; rfl))) h
  | cons x l => rfl

set_option maxRecDepth 100000 in
set_option maxHeartbeats 400000 in
theorem isOK_any (o : OpR) (pv : Addr) (f : Int) (w : World) :
    Calls Try.prog 29 #[.agg (histCells o pv).toArray, .int .i64 f] w fun e w' => e = .returned (.bool (decide (effI o.func o.absent = f) && decide (o.outcome = 2))) ∧ Below w.heap.size w w' := by
  have heff := hide (effect_any o pv (w.alloc (.cells (histCells o pv).toArray 57)))
  have hB : Hid (Below w.heap.size w (w.alloc (.cells (histCells o pv).toArray 57))) := (Below.refl _ _).alloc (Nat.le_refl _) _
  have hbx : Hid ((w.alloc (.cells (histCells o pv).toArray 57)).cell? ⟨w.heap.size, 3, none⟩ = some (.int .i64 o.outcome)) := by
    have hb := heap_alloc_new w (.cells (histCells o pv).toArray 57)
    simp only [Hid, World.cell?, hb]; rfl
  generalize effI o.func o.absent = E at *
  by_cases h1 : E = f
  · subst h1
    obtain ⟨r, hr⟩ : ∃ r, r = (decide (E = E) && decide (o.outcome = 2)) := ⟨_, rfl⟩
    rw [← hr]
    obtain rfl : r = (o.outcome == 2) := by rw [hr]; simp; rfl
    clear hr
    show Calls Try.prog 29 #[.agg #[_, _, _, _, _, _, _, _, _, _, _, _, _, _], _] w _
    go_enter Try.func29, Try.ntmps29
    go_wp2_with fail
    refine heff.out.mono ?_
    rintro e w1 ⟨rfl, hb1⟩
    have c3 := (hb1.cell (p := ⟨w.heap.size, 3, none⟩) (by simp)).trans hbx.out
    have HB : Hid (Below w.heap.size w w1) := hB.out.trans (hb1.mono (by simp))
    clear heff hb1 hB hbx
    go_wp2
    go_ret
    exact ⟨rfl, HB.out⟩
  · have hb : (E == f) = false := by simp [h1]
    obtain ⟨r, hr⟩ : ∃ r, r = (decide (E = f) && decide (o.outcome = 2)) := ⟨_, rfl⟩
    rw [← hr]
    obtain rfl : r = false := by rw [hr]; simp [h1]
    clear hr h1
    show Calls Try.prog 29 #[.agg #[_, _, _, _, _, _, _, _, _, _, _, _, _, _], _] w _
    go_enter Try.func29, Try.ntmps29
    go_wp2_with fail
    refine heff.out.mono ?_
    rintro e w1 ⟨rfl, hb1⟩
    have HB : Hid (Below w.heap.size w w1) := hB.out.trans (hb1.mono (by simp))
    clear heff hb1 hB hbx
    go_wp2
    go_ret
    exact ⟨rfl, HB.out⟩

set_option maxRecDepth 100000 in
set_option maxHeartbeats 400000 in
theorem served_any (o : OpR) (w : World) :
    Calls Try.prog 23 #[.agg (opCells o).toArray] w fun e w' => e = .returned (.bool (servedB o)) ∧ Below w.heap.size w w' := by
  have heff := hide (effectOf_any o (w.alloc (.cells (opCells o).toArray 50)))
  have hB : Hid (Below w.heap.size w (w.alloc (.cells (opCells o).toArray 50))) := (Below.refl _ _).alloc (Nat.le_refl _) _
  have hbx := hide (OpAt.boxed w o)
  obtain ⟨r, hr⟩ : ∃ r, r = servedB o := ⟨_, rfl⟩
  rw [← hr]
  unfold servedB at hr
  by_cases h1 : o.outcome = 2
  · have hb1 : (o.outcome == 2) = true := by simp [h1]
    generalize effI o.func o.absent = E at *
    by_cases h2 : E = 1
    · subst h2
      by_cases h3 : o.repl = ByteArray.empty
      · have hb3 := str_eq_nil h3
        obtain rfl : r = false := by rw [hr]; simp [h3]
        clear hr h1 h3
        show Calls Try.prog 23 #[.agg #[_, _, _, _, _, _, _, _, _]] w _
        go_enter Try.func23, Try.ntmps23
        go_wp2_with fail
        refine heff.out.mono ?_
        rintro e w1 ⟨rfl, hbw⟩
        obtain ⟨d0, d1, d2, d3, d4, d5, d6, d7, d8⟩ := hbx.out.below hbw (by simp)
        have HB : Hid (Below w.heap.size w w1) := hB.out.trans (hbw.mono (by simp))
        simp only [Nat.zero_add] at d8
        clear heff hbw hB hbx d0 d1 d2 d3 d4 d5 d6 d7
        go_wp2
        go_ret
        exact ⟨rfl, HB.out⟩
      · have hb3 := str_ne_nil h3
        obtain rfl : r = true := by rw [hr]; simp [h1, h3]
        clear hr h1 h3
        show Calls Try.prog 23 #[.agg #[_, _, _, _, _, _, _, _, _]] w _
        go_enter Try.func23, Try.ntmps23
        go_wp2_with fail
        refine heff.out.mono ?_
        rintro e w1 ⟨rfl, hbw⟩
        obtain ⟨d0, d1, d2, d3, d4, d5, d6, d7, d8⟩ := hbx.out.below hbw (by simp)
        have HB : Hid (Below w.heap.size w w1) := hB.out.trans (hbw.mono (by simp))
        simp only [Nat.zero_add] at d8
        clear heff hbw hB hbx d0 d1 d2 d3 d4 d5 d6 d7
        go_wp2
        go_ret
        exact ⟨rfl, HB.out⟩
    · have hb2 : (E == 1) = false := by simp [h2]
      obtain rfl : r = false := by rw [hr]; simp [h2]
      clear hr h1 h2
      show Calls Try.prog 23 #[.agg #[_, _, _, _, _, _, _, _, _]] w _
      go_enter Try.func23, Try.ntmps23
      go_wp2_with fail
      refine heff.out.mono ?_
      rintro e w1 ⟨rfl, hbw⟩
      have HB : Hid (Below w.heap.size w w1) := hB.out.trans (hbw.mono (by simp))
      clear heff hbw hB hbx
      go_wp2
      go_ret
      exact ⟨rfl, HB.out⟩
  · have hb1 : (o.outcome == 2) = false := by simp [h1]
    obtain rfl : r = false := by rw [hr]; simp [h1]
    clear hr h1 heff hbx
    show Calls Try.prog 23 #[.agg #[_, _, _, _, _, _, _, _, _]] w _
    go_enter Try.func23, Try.ntmps23
    go_wp2
    go_ret
    exact ⟨rfl, hB.out⟩
end Go.Proofs.Qxb6604187a
