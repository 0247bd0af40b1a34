import Derived.Test.Qxb6604187aT1
import Derived.Test.Qxb6604187aT2
import Derived.Test.Qxb6604187aT5
import Derived.Test.Qxb6604187aT6
import Derived.WalkSmall
import Derived.OpenShut
namespace Go.Proofs.Qxb6604187a
open Go.RowKit

set_option maxRecDepth 100000 in
set_option maxHeartbeats 400000 in
theorem zs_any (after thn : Int) (same higher : Bool) (hb n : Nat) (vs sec : Int) (ops : Nat → OpR) (w : World) (hn : n ≤ 4096) (hist : HistAt w hb ops n) (hfine : ∀ i, i < n → OpFine (ops i)) (hsz : hb + 1 + n ≤ w.heap.size) :
    Calls Try.prog 13 #[.int .i64 after, .int .i64 thn, .bool same, .bool higher, .slice (some ⟨hb, 0, none⟩) n n, .agg #[.int .u64 vs, .int .u64 sec]] w fun e w' => e = .returned (.int .i64 (fTo after thn same higher ops n)) ∧ Below w.heap.size w w' := by
  have hB : Below w.heap.size w (w.alloc (.cells #[.int .u64 vs, .int .u64 sec] 32)) := (Below.refl _ _).alloc (Nat.le_refl _) _
  have hcon := first_any after thn same higher hb n vs sec ops (w.alloc (.cells #[.int .u64 vs, .int .u64 sec] 32)) hn (hist.below hB hsz) hfine (by simp; omega)
  have HC := hide hcon
  clear hcon hist hfine
  generalize fTo after thn same higher ops n = r at *
  go_enter Try.func13, Try.ntmps13
  go_wp2_with fail
  refine HC.out.mono ?_
  rintro e w1 ⟨rfl, hb1⟩
  have hbb := hB.trans (hb1.mono (by simp))
  clear hb1 hB HC
  go_wp2
  go_ret
  exact ⟨rfl, hbb⟩

/-- What the walk is told of the slice of operations that came in. -/
def IsOps (w : World) (a : Option Addr) (n : Nat) (ops : Nat → OpR) : Prop :=
  n ≤ maxLen ∧ (∀ i, i < n → OpFine (ops i)) ∧ (n = 0 ∨ ∃ b off, a = some ⟨b, off, none⟩ ∧ b < w.heap.size ∧ OpsAt w b off ops n)

theorem fine_ver {o : OpR} (h : OpFine o) : 0 ≤ o.ver := by
  exact (bounds_u64 h.ver).1

theorem th_both {w : World} {a : Option Addr} {n cap : Nat} {ops : Nat → OpR} (h : IsOps w a n ops) (hn : n ≤ 4096) :
    Calls Try.prog 10 #[.slice a n cap] w fun e w' => e = .returned (.slice (some ⟨w.heap.size, 0, none⟩) n n) ∧ HistTo w w' ops n n := by
  obtain ⟨_, _, rfl | ⟨b, off, rfl, hb, ho⟩⟩ := h
  · exact th_nil a cap ops w
  · exact th_any b off n cap ops w hn hb ho
theorem zz_both {w : World} {a : Option Addr} {n cap : Nat} {ops : Nat → OpR} (h : IsOps w a n ops) (x t : Int) (s hh : Bool) (v sec : Int) :
    Calls Try.prog 12 #[.int .i64 x, .int .i64 t, .bool s, .bool hh, .slice a n cap, .int .u64 v, .int .u64 sec] w fun e w' => SomeBool e ∧ w' = w := by
  obtain ⟨hm, hf, rfl | ⟨b, off, rfl, hb, ho⟩⟩ := h
  · exact zz_nil x t s hh v sec a cap w
  · exact zz_any x t s hh v sec b off n cap ops w hm ho hf
theorem ob_both {w : World} {a : Option Addr} {n cap : Nat} {ops : Nat → OpR} (h : IsOps w a n ops) :
    Calls Try.prog 7 #[.slice a n cap] w fun e w' => SomeInt e ∧ ∃ m, w' = w.drewN m := by
  obtain ⟨hm, hf, rfl | ⟨b, off, rfl, hb, ho⟩⟩ := h
  · exact ob_nil a cap w
  · exact ob_any b off n cap ops w hm ho hf
theorem sm_both {w : World} {a : Option Addr} {n cap : Nat} {ops : Nat → OpR} (h : IsOps w a n ops) (hn : n ≤ 4096) (after thn : Int) (same higher : Bool) :
    Calls Try.prog 14 #[.int .i64 after, .int .i64 thn, .bool same, .bool higher, .slice a n cap] w fun e w' => e = .returned (.int .i64 (mTo after thn same higher ops n)) ∧ Below w.heap.size w w' := by
  obtain ⟨_, _, rfl | ⟨b, off, rfl, hb, ho⟩⟩ := h
  · exact sm_nil after thn same higher a cap ops w
  · exact sm_any after thn same higher b off n cap ops w hn hb ho
theorem IsOps.below {w w' : World} {a : Option Addr} {n : Nat} {ops : Nat → OpR} (h : IsOps w a n ops) (hB : Below w.heap.size w w') : IsOps w' a n ops := by
  obtain ⟨h1, h2, h3⟩ := h
  refine ⟨h1, h2, ?_⟩
  rcases h3 with h3 | ⟨b, off, rfl, hb, ho⟩
  · exact Or.inl h3
  · exact Or.inr ⟨b, off, rfl, Nat.lt_of_lt_of_le hb hB.size, ho.below hB hb⟩

set_option maxRecDepth 100000 in
set_option maxHeartbeats 400000 in
theorem walk4 (after thn : Int) (same higher : Bool) (a : Option Addr) (n cap : Nat) (ops : Nat → OpR) (vs sec : Int) (w : World) (h : IsOps w a n ops) :
    Calls Try.prog 4 #[.int .i64 after, .int .i64 thn, .bool same, .bool higher, .slice a n cap, .int .u64 vs, .int .u64 sec] w fun e w' => e = .returned (.bool true) ∧ Below w.heap.size w w' := by
  have hmx := h.1
  unfold maxLen at hmx
  have H := hide h
  have hzz := hide (zz_both (cap := cap) h after thn same higher vs sec)
  clear h
  go_enter Try.func4, Try.ntmps4
  go_wp2_with fail
  refine hzz.out.mono ?_
  rintro e w' ⟨⟨r, rfl⟩, rfl⟩
  clear hzz
  cases r
  · go_wp2
    go_ret
    exact ⟨rfl, Below.refl _ _⟩
  by_cases hn : (4096 : Int) < n
  · go_wp2
    go_ret
    exact ⟨rfl, Below.refl _ _⟩
  have hob := hide (ob_both (cap := cap) H.out)
  go_wp2_with fail
  refine hob.out.mono ?_
  rintro e w1 ⟨⟨t, rfl⟩, m, rfl⟩
  clear hob
  have B1 : Below w'.heap.size w' (w'.drewN m) := below_drewN (Below.refl _ _) m
  by_cases ht : 1048576 < t
  · go_wp2
    go_ret
    exact ⟨rfl, B1⟩
  have H1 := hide (H.out.below B1)
  have hth := hide (th_both (cap := cap) H1.out (by omega))
  have HB1 := hide B1
  clear B1
  go_wp2_with fail
  refine hth.out.mono ?_
  rintro e w2 ⟨rfl, hist⟩
  have HB2 : Hid (Below w'.heap.size w' w2) := HB1.out.trans hist.bel
  have hzs := hide (zs_any after thn same higher (w'.drewN m).heap.size n vs sec ops w2 (by omega) ⟨hist.done, hist.ver⟩ H.out.2.1 (by rw [hist.size]; omega))
  clear hist hth
  go_wp2_with fail
  refine hzs.out.mono ?_
  rintro e w3 ⟨rfl, hb3⟩
  have HB3 : Hid (Below w'.heap.size w' w3) := HB2.out.trans (hb3.mono HB2.out.size)
  clear hb3 hzs
  have hsm := hide (sm_both (cap := cap) (H.out.below HB3.out) (by omega) after thn same higher)
  go_wp2_with fail
  refine hsm.out.mono ?_
  rintro e w4 ⟨rfl, hb4⟩
  have HB4 : Hid (Below w'.heap.size w' w4) := HB3.out.trans (hb4.mono HB3.out.size)
  have heq : Hid (fTo after thn same higher ops n = mTo after thn same higher ops n) := f_is_m n (fun i hi => fine_ver (H.out.2.1 i hi))
  rw [← heq.out]
  clear hb4 hsm heq
  generalize fTo after thn same higher ops n = r
  go_wp2
  go_ret
  exact ⟨by simp, HB4.out⟩
end Go.Proofs.Qxb6604187a
