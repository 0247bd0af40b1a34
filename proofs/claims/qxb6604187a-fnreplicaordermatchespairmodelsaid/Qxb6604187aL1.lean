import Derived.Test.Qxb6604187aT4
namespace Go.Proofs.Qxb6604187a

/-- The scope of an operation. -/
def scopeOf (same : Bool) (o : OpR) : Int × ByteArray := (o.proc, if same = true then o.key else ByteArray.empty)
/-- The highest version of the first k operations that do 'after', by scope. -/
def hiTo (after : Int) (same : Bool) (ops : Nat → OpR) : Nat → Int × ByteArray → Option Int
  | 0, _ => .none
  | k + 1, x => if (ops k).outcome = 2 ∧ effI (ops k).func (ops k).absent = after ∧ scopeOf same (ops k) = x then some (max ((hiTo after same ops k x).getD 0) (ops k).ver) else hiTo after same ops k x
/-- Does an operation of effect E and version v break the rule against what was the highest? -/
def brkE (E thn : Int) (higher : Bool) (v : Int) : Option Int → Bool
  | .none => false
  | some e => decide (E = thn) && (decide (v < e) || (higher && decide (v = e)))
def brkB (thn : Int) (higher : Bool) (o : OpR) (hi : Option Int) : Bool := brkE (effI o.func o.absent) thn higher o.ver hi
/-- The least line at which one of the first k operations breaks the rule. -/
def fTo (after thn : Int) (same higher : Bool) (ops : Nat → OpR) : Nat → Int
  | 0 => 0
  | k + 1 => if (ops k).outcome = 2 ∧ brkB thn higher (ops k) (hiTo after same ops k (scopeOf same (ops k))) = true then noteI (fTo after thn same higher ops k) (ops k).comp else fTo after thn same higher ops k


theorem hiTo_far {after : Int} {same : Bool} {ops : Nat → OpR} {k : Nat} (h : ¬ ((ops k).outcome = 2 ∧ effI (ops k).func (ops k).absent = after)) : hiTo after same ops (k + 1) = hiTo after same ops k := by
  funext x
  simp only [hiTo]
  rw [if_neg (fun e => h ⟨e.1, e.2.1⟩)]
theorem hiTo_hit {after : Int} {same : Bool} {ops : Nat → OpR} {k : Nat} (h1 : (ops k).outcome = 2) (h2 : effI (ops k).func (ops k).absent = after) :
    hiTo after same ops (k + 1) (scopeOf same (ops k)) = some (max ((hiTo after same ops k (scopeOf same (ops k))).getD 0) (ops k).ver) := by
  simp only [hiTo]
  rw [if_pos ⟨h1, h2, trivial⟩]
theorem hiTo_other {after : Int} {same : Bool} {ops : Nat → OpR} {k : Nat} {x : Int × ByteArray} (h : x ≠ scopeOf same (ops k)) : hiTo after same ops (k + 1) x = hiTo after same ops k x := by
  simp only [hiTo]
  rw [if_neg (fun e => h e.2.2.symm)]

theorem max_wf {a b : Int} (ha : (Lit.int .u64 a).wf = true) (hb : (Lit.int .u64 b).wf = true) : (Lit.int .u64 (max a b)).wf = true := by
  rcases Int.le_total a b with h | h
  · rw [Int.max_eq_right h]; exact hb
  · rw [Int.max_eq_left h]; exact ha
theorem hiTo_wf {after : Int} {same : Bool} {ops : Nat → OpR} : ∀ k, (∀ i, i < k → (Lit.int .u64 (ops i).ver).wf = true) → ∀ x, (Lit.int .u64 ((hiTo after same ops k x).getD 0)).wf = true
  | 0, _, x => by simp only [hiTo]; decide
  | k + 1, h, x => by
    simp only [hiTo]
    split
    · exact max_wf (hiTo_wf k (fun i hi => h i (by omega)) x) (h k (by omega))
    · exact hiTo_wf k (fun i hi => h i (by omega)) x

theorem fTo_far {after thn : Int} {same higher : Bool} {ops : Nat → OpR} {k : Nat} (h : (ops k).outcome ≠ 2) : fTo after thn same higher ops (k + 1) = fTo after thn same higher ops k := by
  simp only [fTo]
  rw [if_neg (fun e => h e.1)]
theorem fTo_ok {after thn : Int} {same higher : Bool} {ops : Nat → OpR} {k : Nat} (h : (ops k).outcome = 2) {bb : Bool} (hb : bb = brkB thn higher (ops k) (hiTo after same ops k (scopeOf same (ops k)))) :
    (if bb = true then noteI (fTo after thn same higher ops k) (ops k).comp else fTo after thn same higher ops k) = fTo after thn same higher ops (k + 1) := by
  simp only [fTo]
  rw [← hb]
  simp [h]

end Go.Proofs.Qxb6604187a
