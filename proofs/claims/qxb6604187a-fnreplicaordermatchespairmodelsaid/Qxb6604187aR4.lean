import Derived.Test.Qxb6604187aShelf
import Derived.Test.Qxb6604187aR2
import Derived.Test.Qxb6604187aT5
namespace Go.Proofs.Qxb6604187a
open Go.RowKit Go.Sort Go.Shelf Go.Lib

/-- A mark: its line, the operation's place, does it complete? -/
abbrev Mk := Int × Nat × Bool
def encM (m : Mk) : List Value := [.int .i64 m.1, .int .i64 (m.2.1 : Int), .bool m.2.2]
/-- The marks of the first k operations. -/
def marksTo (ops : Nat → OpR) : Nat → List Mk
  | 0 => []
  | k + 1 => (marksTo ops k ++ [((ops k).inv, k, false)]) ++ (if (ops k).comp = 0 then [] else [((ops k).comp, k, true)])
theorem marksTo_len (ops : Nat → OpR) : ∀ k, (marksTo ops k).length ≤ 2 * k
  | 0 => Nat.le_refl _
  | k + 1 => by
    have := marksTo_len ops k
    unfold marksTo
    split <;> simp <;> omega
theorem marksTo_no {ops : Nat → OpR} {k : Nat} (h : (ops k).comp = 0) : marksTo ops (k + 1) = marksTo ops k ++ [((ops k).inv, k, false)] := by simp [marksTo, h]
theorem marksTo_yes {ops : Nat → OpR} {k : Nat} (h : ¬ (ops k).comp = 0) : marksTo ops (k + 1) = (marksTo ops k ++ [((ops k).inv, k, false)]) ++ [((ops k).comp, k, true)] := by simp [marksTo, h]
theorem marksTo_lines (ops : Nat → OpR) : ∀ k, (marksTo ops k).map (·.1) = linesTo ops k
  | 0 => rfl
  | k + 1 => by
    simp only [marksTo, linesTo, List.map_append, marksTo_lines ops k]
    split <;> rfl

/-! ### the sort, at marks whose lines do not wrap -/
/-- A mark whose line is below 2 to the 63. -/
abbrev Mb := BitVec 63 × Nat × Bool
def ofMb (x : Mb) : Mk := ((x.1.toNat : Int), x.2.1, x.2.2)
def toMb (m : Mk) : Mb := (BitVec.ofNat 63 m.1.toNat, m.2.1, m.2.2)
def encB (x : Mb) : List Value := encM (ofMb x)
def cfB (x y : Mb) : Int := (x.1.toNat : Int) - (y.1.toNat : Int)
theorem of_to {m : Mk} (h0 : 0 ≤ m.1) (h1 : m.1 ≤ 9223372036854775807) : ofMb (toMb m) = m := by
  obtain ⟨l, i, b⟩ := m
  simp only [ofMb, toMb, BitVec.toNat_ofNat]
  simp only at h0 h1
  rw [Nat.mod_eq_of_lt (by omega)]
  rw [Int.toNat_of_nonneg h0]
theorem mb_lt (x : Mb) : x.1.toNat < 9223372036854775808 := x.1.isLt

theorem mb_bd (x : Mb) : 0 ≤ (ofMb x).1 ∧ (ofMb x).1 ≤ 9223372036854775807 := by
  have := mb_lt x
  show 0 ≤ (x.1.toNat : Int) ∧ (x.1.toNat : Int) ≤ _
  omega
theorem ltB (x y : Mb) : ltOf cfB x y = decide ((x.1.toNat : Int) < (y.1.toNat : Int)) := by
  unfold ltOf cfB
  rw [decide_eq_decide]
  omega
theorem swoB : SWO (ltOf cfB) where
  irrefl x := by rw [ltB, decide_eq_false_iff_not]; omega
  trans x y z h1 h2 := by rw [ltB, decide_eq_true_eq] at *; omega
  ntrans x y z h1 h2 := by rw [ltB, decide_eq_false_iff_not] at *; omega

set_option maxHeartbeats 400000 in
theorem cmp_any (a b : Int) (i j : Int) (p q : Bool) (W : World) (ha : 0 ≤ a ∧ a ≤ 9223372036854775807) (hb : 0 ≤ b ∧ b ≤ 9223372036854775807) :
    Calls Try.prog 35 #[.agg #[.int .i64 a, .int .i64 i, .bool p], .agg #[.int .i64 b, .int .i64 j, .bool q]] W fun e w' => e = .returned (.int .i64 (a - b)) ∧ ∃ q os', w' = grow (W.drewN q) os' := by
  obtain ⟨ha0, ha1⟩ := ha
  obtain ⟨hb0, hb1⟩ := hb
  go_enter Try.func35, Try.ntmps35
  go_wp2
  go_ret
  exact ⟨rfl, 0, _, by rw [alloc_eq_grow, alloc_eq_grow, grow_grow]; rfl⟩

theorem cmpLays35 (blk off size : Nat) (w : World) : CmpLays Try.prog 35 #[] encB 3 cfB blk off size w :=
  fun _ _ _ _ x y => cmp_any _ _ _ _ _ _ _ (mb_bd x) (mb_bd y)

/-- slices.SortFunc at marks. -/
theorem sort_any (blk cap : Nat) (d : Array Mb) (w : World) (hH : HoldsK encB 3 w blk 0 d) (hblk : blk < w.heap.size) (hsz : d.size < 4611686018427387904) :
    Calls Try.prog 34 #[.slice (some ⟨blk, 0, none⟩) d.size cap, .func (.func 35) #[] #[]] w fun e w' => e = .returned (.tuple #[]) ∧ ∃ d' n os, PermIn 0 d.size d d' ∧ SortedIn (ltOf cfB) 0 d.size d' ∧ w' = sortWorldK encB 3 w blk 0 n d' os := by
  have eg : ∀ args w, (callFunc 35 args).run Try.prog w = .ok (.enter 35 args) w := enters_of Try.func35 (by kernel_rfl) rfl
  have hcon := AnyQ.slices_SortFunc Try.sortMark 3 Try.isAgg75 Try.sizeOf75 encB (fun _ => rfl) (fun x v hv => by simp [encB, encM] at hv; rcases hv with rfl | rfl | rfl <;> rfl) cfB swoB 35 #[] blk 0 cap d w eg (cmpLays35 blk 0 d.size w) hH hblk hsz
  exact hcon

end Go.Proofs.Qxb6604187a
