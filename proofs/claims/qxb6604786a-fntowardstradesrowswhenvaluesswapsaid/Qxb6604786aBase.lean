/-
  What the walks are told of the memory: rows of numbers, and the pointer to two rows.
-/
import Derived.Test.Qxb6604786aL1
import Derived.WalkKit
import Derived.Below
import Derived.Deep.Draws
import Derived.Deep.RegionHeld3
import Derived.Deep.MidRow
import Derived.StillTailTactics
import Derived.BigQuiet
import Derived.Lib.SlBuf
import Derived.Laws.IdiomCopy
import Derived.Deep.AppendLies
import Derived.Deep.QuietTactic
import Derived.Deep.DeepCutAuto
import Derived.Deep.CutBlock
import Derived.OpenShut
import Derived.WalkSmall
namespace Go.Proofs.Qxb6604786a
open Go.RowKit

theorem hide {p : Prop} (h : p) : Hid p := h

/-- A region that draws its order, whose first n operations only read and whose rest is a chain behind them: one walk in the text's order. -/
theorem region_tail {P : Program} {id : Nat} {Q : Exit → Act → World → Prop} {a : Act} {w : World} {l : List Oper} (n : Nat) (hm : P.follows .mixedOrders = true) (hB : Region.lexTailB .any l.toArray n = true)
    (h : wpStill P l.toArray w.drew (fun a' => wpList P l.toArray Q (l.drop n) a' w.drew) (l.take n) a) : (Code.region id l.toArray true).wp P Q a w := wp_region_still_tail n hm hB h

/-- The call hands back some bool. -/
def SomeBool (e : Ending) : Prop := ∃ r : Bool, e = .returned (.bool r)
theorem someBool (r : Bool) : SomeBool (.returned (.bool r)) := ⟨r, rfl⟩

/-- The n numbers of the row that begins at 'a' are f 0, f 1, .. -/
def IsRow (k : IntKind) (w : World) (a : Option Addr) (n : Nat) (f : Nat → Int) : Prop :=
  0 < n → ∃ b off, a = some ⟨b, off, none⟩ ∧ b < w.heap.size ∧ ∀ i, i < n → w.cell? ⟨b, off + i, none⟩ = some (.int k (f i))

theorem IsRow.below {k : IntKind} {w w' : World} {a : Option Addr} {n : Nat} {f : Nat → Int} (h : IsRow k w a n f) (hb : Below w.heap.size w w') : IsRow k w' a n f := fun hn => by
  obtain ⟨b, off, ha, hB, hc⟩ := h hn
  have := hb.size
  exact ⟨b, off, ha, by omega, fun i hi => (hb.cell hB).trans (hc i hi)⟩

/-- The pointer that came in: to two rows. -/
structure TwoRows (w : World) (b off : Nat) (a0 a1 : Option Addr) (n0 c0 n1 c1 : Nat) : Prop where
  r0 : w.cell? ⟨b, off, none⟩ = some (.slice a0 n0 c0)
  r1 : w.cell? ⟨b, off + 1, none⟩ = some (.slice a1 n1 c1)

end Go.Proofs.Qxb6604786a
