import Derived.Test.Qxb6604187aT4
import Derived.Maps.OwnSet
import Derived.ProofKit
namespace Go.Proofs.Qxb6604187a
open Go.RowKit Go.Maps

theorem Try.laidOut : laidOutB Try.prog = true := by kernel_rfl
theorem Try.keyType82 : Try.prog.keyType 82 = true := by kernel_rfl
theorem Try.keyType78 : Try.prog.keyType 78 = true := by kernel_rfl
theorem Try.cells82 : Try.prog.cellsOf 82 = 2 := by kernel_rfl
theorem Try.cells78 : Try.prog.cellsOf 78 = 2 := by kernel_rfl
theorem Try.cells3 : Try.prog.cellsOf 3 = 1 := by kernel_rfl
theorem Try.cells9 : Try.prog.cellsOf 9 = 1 := by kernel_rfl
theorem Try.types2 : decide (2 ≤ Try.prog.types.size) = true := by kernel_rfl
theorem Try.types : ∃ m, Try.prog.types.size = m + 2 := ⟨Try.prog.types.size - 2, by have := of_decide_eq_true Try.types2; omega⟩
theorem law82 : Keyed Try.prog 82 := Keyed.of_law (deep_law_laid Try.laidOut (m := 2) (by omega) (of_decide_eq_true (by kernel_rfl)) (by kernel_rfl) (by kernel_rfl))
theorem law78 : Keyed Try.prog 78 := Keyed.of_law (deep_law_laid Try.laidOut (m := 2) (by omega) (of_decide_eq_true (by kernel_rfl)) (by kernel_rfl) (by kernel_rfl))

theorem key82 (p : Int) (s : ByteArray) (hp : (Lit.int .i64 p).wf = true) (hs : s.size ≤ maxLen) : ∃ kl, keyOf Try.prog 82 (.agg #[.int .i64 p, .string s]) = some kl := by
  obtain ⟨m, hm⟩ := Try.types
  unfold keyOf
  rw [hm]
  simp [Value.formed, Program.keyLits, Try.keyType82, Try.underlying82, Try.cells82, Try.underlying3, Try.underlying9, Try.cells3, Try.cells9, Value.cells, hp, hs]

theorem key78 (p s : ByteArray) (hp : p.size ≤ maxLen) (hs : s.size ≤ maxLen) : ∃ kl, keyOf Try.prog 78 (.agg #[.string p, .string s]) = some kl := by
  obtain ⟨m, hm⟩ := Try.types
  unfold keyOf
  rw [hm]
  simp [Value.formed, Program.keyLits, Try.keyType78, Try.underlying78, Try.cells78, Try.underlying9, Try.cells9, Value.cells, hp, hs]

/-- Block b of w is a map of at most n entries; at each key 'kv x' (x good) it holds 'f x'. -/
def MapAs (w : World) (k : TypeId) (b n : Nat) {α : Type} (kv : α → Value) (ok : α → Prop) (f : α → Option Int) : Prop :=
  ∃ D : DataW Unit, w.ownsMap Try.prog k (plainElem Try.prog 23) b n D ∧
    ∀ x, ok x → ∀ kl, keyOf Try.prog k (kv x) = some kl → Maps.has D kl = (f x).isSome ∧ D.atKey kl (.lit (.int .u64 0)) = .lit (.int .u64 ((f x).getD 0))

/-- What the laws ask of the keys. -/
structure KeysOk (k : TypeId) {α : Type} (kv : α → Value) (ok : α → Prop) : Prop where
  law : Keyed Try.prog k
  key : ∀ x, ok x → ∃ kl, keyOf Try.prog k (kv x) = some kl
  inj : ∀ x y, kv x = kv y → x = y

section
variable {k t : TypeId} {α : Type} {kv : α → Value} {ok : α → Prop} {w : World} {b n : Nat} {f : α → Option Int}

theorem zero23 (w : World) : (zeroValue 23).run Try.prog w = .ok (.int .u64 0) w := by kernel_rfl

theorem MapAs.made (w : World) (k : TypeId) (kv : α → Value) (ok : α → Prop) : MapAs (w.alloc (.map #[] 0)) k w.heap.size 0 kv ok (fun _ => Option.none) :=
  ⟨.map [], World.ownsMap_made _ _ _ _, fun _ _ _ _ => ⟨rfl, rfl⟩⟩

theorem MapAs.kept {w' : World} (h : MapAs w k b n kv ok f) (hb : w'.heap[b]? = w.heap[b]?) : MapAs w' k b n kv ok f := by
  obtain ⟨D, ⟨es, clock, h1, h2⟩, hD⟩ := h
  exact ⟨D, ⟨es, clock, hb.trans h1, h2⟩, hD⟩

theorem MapAs.mono (h : MapAs w k b n kv ok f) : MapAs w k b (n + 1) kv ok f := by
  obtain ⟨D, hown, hD⟩ := h
  exact ⟨D, hown.mono (Nat.le_succ _), hD⟩

theorem MapAs.look (h : MapAs w k b n kv ok f) (K : KeysOk k kv ok) (ht : Try.prog.underlying t = some (.map k 23)) {x : α} (hx : ok x) :
    (Instr.lookup t (.map (some b)) (kv x) false).run Try.prog w = .ok (.int .u64 ((f x).getD 0)) w := by
  obtain ⟨D, hown, hD⟩ := h
  obtain ⟨kl, hkl⟩ := K.key x hx
  obtain ⟨c, hrun, hat, _⟩ := hown.lookup_int K.law ht Try.underlying23 (zero23 _) hkl
  rw [(hD x hx kl hkl).2] at hat
  simp only [DataW.lit.injEq, Lit.int.injEq, true_and] at hat
  rw [hrun, hat]

theorem MapAs.look_ok (h : MapAs w k b n kv ok f) (K : KeysOk k kv ok) (ht : Try.prog.underlying t = some (.map k 23)) {x : α} (hx : ok x) :
    (Instr.lookup t (.map (some b)) (kv x) true).run Try.prog w = .ok (.tuple #[.int .u64 ((f x).getD 0), .bool (f x).isSome]) w := by
  obtain ⟨D, hown, hD⟩ := h
  obtain ⟨kl, hkl⟩ := K.key x hx
  obtain ⟨v, ps, hrun, hv⟩ := hown.look_ok K.law ht (zero23 _) (plainElem_int Try.underlying23 (by decide)) hkl
  rw [(hD x hx kl hkl).2] at hv
  obtain ⟨c, rfl, hc, _⟩ := plainElem_int_inv Try.underlying23 hv
  simp only [Prod.mk.injEq, DataW.lit.injEq, Lit.int.injEq, true_and] at hc
  rw [hrun, (hD x hx kl hkl).1, hc.1]

theorem MapAs.store (h : MapAs w k b n kv ok f) (K : KeysOk k kv ok) (ht : Try.prog.underlying t = some (.map k 23)) (hn : n < maxLen) {x : α} (hx : ok x) {v : Int} (hv : (Lit.int .u64 v).wf = true) {f' : α → Option Int}
    (h1 : f' x = some v) (h2 : ∀ y, y ≠ x → f' y = f y) :
    ∃ w', (Instr.mapUpdate t (.map (some b)) (kv x) (.int .u64 v)).run Try.prog w = .ok () w' ∧ MapAs w' k b (n + 1) kv ok f' ∧ w.mapTurned w' b := by
  obtain ⟨D, hown, hD⟩ := h
  obtain ⟨kl, hkl⟩ := K.key x hx
  obtain ⟨w', hrun, hown', hturn⟩ := hown.store K.law ht hn hkl (plainElem_int Try.underlying23 hv)
  refine ⟨w', hrun, ⟨_, hown', fun y hy kl' hkl' => ?_⟩, hturn⟩
  have hisK := K.law.key hkl
  by_cases hxy : kl' = kl
  · subst hxy
    have : y = x := K.inj _ _ (K.law.inj hkl' hkl)
    subst this
    rw [Maps.has_put_same hown.isMap hisK, Maps.atKey_put_same hown.isMap hisK, h1]
    exact ⟨rfl, rfl⟩
  · have hne : y ≠ x := fun e => hxy (by subst e; rw [hkl] at hkl'; exact (Option.some.inj hkl').symm)
    rw [Maps.has_put_other hxy, Maps.atKey_put_other hxy, h2 y hne]
    exact hD y hy kl' hkl'
end

/-- A scope: a process and a key. -/
def kv82 (x : Int × ByteArray) : Value := .agg #[.int .i64 x.1, .string x.2]
def ok82 (x : Int × ByteArray) : Prop := (Lit.int .i64 x.1).wf = true ∧ x.2.size ≤ maxLen
theorem keys82 : KeysOk 82 kv82 ok82 := ⟨law82, fun x h => key82 x.1 x.2 h.1 h.2, fun x y h => by simp [kv82] at h; exact Prod.ext h.1 h.2⟩
/-- Who served: a key and a replica. -/
def kv78 (x : ByteArray × ByteArray) : Value := .agg #[.string x.1, .string x.2]
def ok78 (x : ByteArray × ByteArray) : Prop := x.1.size ≤ maxLen ∧ x.2.size ≤ maxLen
theorem keys78 : KeysOk 78 kv78 ok78 := ⟨law78, fun x h => key78 x.1 x.2 h.1 h.2, fun x y h => by simp [kv78] at h; exact Prod.ext h.1 h.2⟩

end Go.Proofs.Qxb6604187a
