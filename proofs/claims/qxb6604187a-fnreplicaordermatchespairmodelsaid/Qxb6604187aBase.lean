/-
  What the walks are told of the memory: the operations that came in, and the words for them.
-/
import Derived.Test.Qxb6604187aRows
import Derived.WalkKit
import Derived.Below
import Derived.Deep.Draws
import Derived.StillTailTactics
import Derived.BigQuiet
namespace Go.Proofs.Qxb6604187a
open Go.RowKit

/-- One operation as plain data. -/
structure OpR where
  proc : Int
  func : Int
  key : ByteArray
  outcome : Int
  inv : Int
  comp : Int
  ver : Int
  absent : Bool
  repl : ByteArray

/-- The nine cells of an operation 'o' lie at block b from offset 'p' on. -/
structure OpAt (w : World) (b p : Nat) (o : OpR) : Prop where
  c0 : w.cell? ⟨b, p, none⟩ = some (.int .i64 o.proc)
  c1 : w.cell? ⟨b, p + 1, none⟩ = some (.int .i64 o.func)
  c2 : w.cell? ⟨b, p + 2, none⟩ = some (.string o.key)
  c3 : w.cell? ⟨b, p + 3, none⟩ = some (.int .i64 o.outcome)
  c4 : w.cell? ⟨b, p + 4, none⟩ = some (.int .i64 o.inv)
  c5 : w.cell? ⟨b, p + 5, none⟩ = some (.int .i64 o.comp)
  c6 : w.cell? ⟨b, p + 6, none⟩ = some (.int .u64 o.ver)
  c7 : w.cell? ⟨b, p + 7, none⟩ = some (.bool o.absent)
  c8 : w.cell? ⟨b, p + 8, none⟩ = some (.string o.repl)

/-- What is known of the numbers and strings of an operation that was read. -/
structure OpFine (o : OpR) : Prop where
  proc : (Lit.int .i64 o.proc).wf = true
  ver : (Lit.int .u64 o.ver).wf = true
  key : o.key.size ≤ maxLen
  repl : o.repl.size ≤ maxLen
  inv : (Lit.int .i64 o.inv).wf = true
  comp : (Lit.int .i64 o.comp).wf = true

/-- The operations lie in block b from offset 'off' on. -/
def OpsAt (w : World) (b off : Nat) (ops : Nat → OpR) (n : Nat) : Prop := ∀ i, i < n → OpAt w b (off + i * 9) (ops i)

/-- Where the block's cells read as they did, so does the operation. -/
theorem OpAt.same {w w' : World} {b p : Nat} {o : OpR} (h : OpAt w b p o) (hs : ∀ q, w'.cell? ⟨b, q, none⟩ = w.cell? ⟨b, q, none⟩) : OpAt w' b p o :=
  ⟨(hs _).trans h.c0, (hs _).trans h.c1, (hs _).trans h.c2, (hs _).trans h.c3, (hs _).trans h.c4, (hs _).trans h.c5, (hs _).trans h.c6, (hs _).trans h.c7, (hs _).trans h.c8⟩
theorem OpAt.below {w w' : World} {b p B : Nat} {o : OpR} (h : OpAt w b p o) (hb : Below B w w') (hB : b < B) : OpAt w' b p o := h.same fun _ => hb.cell hB
theorem OpsAt.below {w w' : World} {b off n B : Nat} {ops : Nat → OpR} (h : OpsAt w b off ops n) (hb : Below B w w') (hB : b < B) : OpsAt w' b off ops n := fun i hi => (h i hi).below hb hB
theorem OpsAt.drewN {w : World} {b off n : Nat} {ops : Nat → OpR} (h : OpsAt w b off ops n) (m : Nat) : OpsAt (w.drewN m) b off ops n := fun i hi => (h i hi).same fun _ => rfl

theorem hide {p : Prop} (h : p) : Hid p := h

/-- A region that draws its order, whose first n operations only read and whose rest is a chain behind them: one walk in the text's order. -/
theorem region_tail {P : Program} {id : Nat} {Q : Exit → Act → World → Prop} {a : Act} {w : World} {l : List Oper} (n : Nat) (hm : P.follows .mixedOrders = true) (hB : Region.lexTailB .any l.toArray n = true)
    (h : wpStill P l.toArray w.drew (fun a' => wpList P l.toArray Q (l.drop n) a' w.drew) (l.take n) a) : (Code.region id l.toArray true).wp P Q a w := wp_region_still_tail n hm hB h

/-- The worlds in which all that lay in w lies as it lay. -/
def Past (w : World) : Type := { W : World // Below w.heap.size w W }
def past (w : World) (p : Past w) : World := p.val
theorem past_some (w : World) : Nonempty (Past w) := ⟨⟨w, Below.refl _ _⟩⟩
theorem past_below (w : World) (p : Past w) : Below w.heap.size w (past w p) := p.property
theorem past_of {w W : World} (h : Below w.heap.size w W) : ∃ p, W = past w p := ⟨⟨W, h⟩, rfl⟩
theorem cell?_past (w : World) (p : Past w) (a : Addr) (h : (w.cell? a).isSome = true) : (past w p).cell? a = w.cell? a := by
  obtain ⟨v, hv⟩ := Option.isSome_iff_exists.1 h
  exact (past_below w p).cell (World.block_lt_of_cell? w a hv)

/-- A region that draws its order, whose operations and callees leave all that lay in w as it lay: one walk in the text's order. -/
theorem region_past {P : Program} {id : Nat} {Q : Exit → Act → World → Prop} {a : Act} {w : World} {l : List Oper} (hm : P.follows .mixedOrders = true) (hB : Region.lexB .any l.toArray = true)
    (h : wpQuiet P l.toArray (fun w' => ∃ p, w' = past w p) (fun a' => ∀ w', (∃ p, w' = past w p) → Q .normal a' w') l a) : (Code.region id l.toArray true).wp P Q a w :=
  wp_region_quiet (C := fun w' => ∃ p, w' = past w p) hm hB (past_of (Below.refl _ _).drew) (by simpa using h)

theorem Calls.past_of {P : Program} {f : FuncId} {args : Array Value} {w : World} {p : Past w} {v : Value}
    (h : Calls P f args (past w p) fun e w' => e = .returned v ∧ Below (past w p).heap.size (past w p) w') : Calls P f args (past w p) fun e w'' => e = .returned v ∧ ∃ q, w'' = past w q :=
  h.mono fun _ _ ⟨he, hb⟩ => ⟨he, Qxb6604187a.past_of ((past_below w p).trans (hb.mono (past_below w p).size))⟩

/-- The call hands back some bool. -/
def SomeBool (e : Ending) : Prop := ∃ r : Bool, e = .returned (.bool r)
theorem someBool (r : Bool) : SomeBool (.returned (.bool r)) := ⟨r, rfl⟩
/-- The call hands back some int. -/
def SomeInt (e : Ending) : Prop := ∃ r : Int, e = .returned (.int .i64 r)
theorem someInt (r : Int) : SomeInt (.returned (.int .i64 r)) := ⟨r, rfl⟩

end Go.Proofs.Qxb6604187a
