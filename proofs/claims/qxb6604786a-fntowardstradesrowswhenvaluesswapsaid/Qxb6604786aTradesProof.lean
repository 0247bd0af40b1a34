/-
  'Rows.FnTowardsTradesRowsWhenValuesSwapSaid': the row, out of the walk (Qxb6604786aT10, 'walk6_any').
-/
import Derived.Test.Qxb6604786aO1
import Derived.Test.Qxb6604786aT10
import Derived.ChangeOld
import Derived.Below
namespace Go.Proofs.Qxb6604786a.fnTowardsTradesRowsWhenValuesSwap
open Go.ChangeShapes Go.WideShapes Go.ChangeAt Go.RowKit
set_option linter.unusedVariables false

theorem own : ownKnob Try.prog.godebug = Option.none := by kernel_rfl
theorem laidOut : laidOutB Try.prog = true := by kernel_rfl

theorem walk6 (a0 a1 a2 a3 a4 : Option Addr) (n0 c0 n1 c1 n2 c2 n3 c3 n4 c4 : Nat) (start frm nodes rounds vs : Nat → Int) (round : Int) (v : Value) (w : World) (hA : ArgsIn w a0 a1 a2 a3 a4 n0 n1 n2 n3 n4 start frm nodes rounds vs) (hv : DistIn w v) :
    Calls Try.prog 6 #[.slice a0 n0 c0, .slice a1 n1 c1, .slice a2 n2 c2, .slice a3 n3 c3, .slice a4 n4 c4, .int .i64 round, v] w fun e w' => e = .returned (.bool true) ∧ Below w.heap.size w w' := by
  rcases hv with rfl | ⟨b, off, b0, m0, e0, b1, m1, e1, f0, f1, rfl, hR, r0, r1, l0, l1⟩
  · exact walk6_nil a0 a1 a2 a3 a4 n0 c0 n1 c1 n2 c2 n3 c3 n4 c4 start frm nodes rounds vs round w hA
  · exact walk6_any a0 a1 a2 a3 a4 b0 b1 n0 c0 n1 c1 n2 c2 n3 c3 n4 c4 m0 e0 m1 e1 b off start frm nodes rounds vs f0 f1 round w hA l0 l1 hR r0 r1

set_option maxRecDepth 100000 in
theorem lifted (os : Os) (started : os.Started) (H : Type) (enc : TypeId × Value → H) :
    ReturnsInHanded {} Try.checked os 6 .any (Rows.fnTowardsTradesRowsWhenValuesSwapSpec.pre6 enc Try.prog Try.f6 Rows.fnTowardsTradesRowsWhenValuesSwapRow.domain false) (Rows.fnTowardsTradesRowsWhenValuesSwapSpec.post enc Try.prog Try.f6 false true false false) := by
  refine returnsInHanded_of_change (C := Try.checked) own started (by kernel_rfl) Try.func6
    (ChangeSpec.witness6 (enc := enc) (C := Try.checked) false ⟨#[], #[.slice Option.none 0 0, .slice Option.none 0 0, .slice Option.none 0 0, .slice Option.none 0 0, .slice Option.none 0 0, .int .i64 0, .pointer Option.none], []⟩ 8 (by kernel_rfl) (by kernel_rfl) (by kernel_rfl) (by kernel_rfl)) ?_
  intro W base args ds gs before hval0 hW hcnd _
  have hval : ∀ (j : Nat) t v, Try.f6.params[j]? = some t → args[j]? = some v → Value.okWide Try.prog W .any base t v := hval0
  have hW' := hW
  obtain ⟨p, q, hA0, hV, rfl, hfz, hnd⟩ := hW
  have hA : DataW.TrodAll enc Try.prog W 0 (fun _ => true) true Try.f6.params.toList args.toList ds p := hA0
  rw [Try.params6] at hA hval
  obtain ⟨v0, vs0, d0, ds0, p0, q0, hargs, rfl, rfl, h0, r0⟩ := trodAll_cons hA
  obtain ⟨v1, vs1, d1, ds1, p1, q1, rfl, rfl, rfl, h1, r1⟩ := trodAll_cons r0
  obtain ⟨v2, vs2, d2, ds2, p2, q2, rfl, rfl, rfl, h2, r2⟩ := trodAll_cons r1
  obtain ⟨v3, vs3, d3, ds3, p3, q3, rfl, rfl, rfl, h3, r3⟩ := trodAll_cons r2
  obtain ⟨v4, vs4, d4, ds4, p4, q4, rfl, rfl, rfl, h4, r4⟩ := trodAll_cons r3
  obtain ⟨v5, vs5, d5, ds5, p5, q5, rfl, rfl, rfl, h5, r5⟩ := trodAll_cons r4
  obtain ⟨v6, vs6, d6, ds6, p6, q6, rfl, rfl, rfl, h6, r6⟩ := trodAll_cons r5
  obtain ⟨rfl, rfl, rfl⟩ := trodAll_nil r6
  obtain rfl : args = #[v0, v1, v2, v3, v4, v5, v6] := by cases args; simp_all
  obtain ⟨rfl, rfl⟩ := trodVars_none hV
  obtain ⟨a0, len0, cap0, rfl⟩ := okWide_slice Try.underlying25 (hval 0 25 v0 rfl rfl)
  obtain ⟨a1, len1, cap1, rfl⟩ := okWide_slice Try.underlying22 (hval 1 22 v1 rfl rfl)
  obtain ⟨a2, len2, cap2, rfl⟩ := okWide_slice Try.underlying22 (hval 2 22 v2 rfl rfl)
  obtain ⟨a3, len3, cap3, rfl⟩ := okWide_slice Try.underlying25 (hval 3 25 v3 rfl rfl)
  obtain ⟨a4, len4, cap4, rfl⟩ := okWide_slice Try.underlying31 (hval 4 31 v4 rfl rfl)
  have lt0 : ∀ x ∈ p0, x.block < W.heap.size := by obtain ⟨m, hm⟩ := h0; exact DataW.trod_lt m _ _ _ hm
  have lt1 : ∀ x ∈ p1, x.block < W.heap.size := by obtain ⟨m, hm⟩ := h1; exact DataW.trod_lt m _ _ _ hm
  have lt2 : ∀ x ∈ p2, x.block < W.heap.size := by obtain ⟨m, hm⟩ := h2; exact DataW.trod_lt m _ _ _ hm
  have lt3 : ∀ x ∈ p3, x.block < W.heap.size := by obtain ⟨m, hm⟩ := h3; exact DataW.trod_lt m _ _ _ hm
  have lt4 : ∀ x ∈ p4, x.block < W.heap.size := by obtain ⟨m, hm⟩ := h4; exact DataW.trod_lt m _ _ _ hm
  have lt6 : ∀ x ∈ p6, x.block < W.heap.size := by obtain ⟨m, hm⟩ := h6; exact DataW.trod_lt m _ _ _ hm
  obtain ⟨f0, w0, l0, b0⟩ := row_arg Try.underlying25 Try.underlying3 (by kernel_rfl) h0
  obtain ⟨f1, w1, l1, b1⟩ := row_arg Try.underlying22 Try.underlying21 (by kernel_rfl) h1
  obtain ⟨f2, w2, l2, b2⟩ := row_arg Try.underlying22 Try.underlying21 (by kernel_rfl) h2
  obtain ⟨f3, w3, l3, b3⟩ := row_arg Try.underlying25 Try.underlying3 (by kernel_rfl) h3
  obtain ⟨f4, w4, l4, b4⟩ := row_arg Try.underlying31 Try.underlying40 (by kernel_rfl) h4
  obtain ⟨a5, rfl, rfl, rfl, w5⟩ := open_int Try.underlying3 (hval 5 3 v5 rfl rfl) h5
  have w6 := dist_open (hval 6 32 v6 rfl rfl) h6
  have hArgs : ArgsIn W a0 a1 a2 a3 a4 len0 len1 len2 len3 len4 f0 f1 f2 f3 f4 := ⟨l0, l1, l2, l3, l4, w0, w1, w2, w3, w4, fun i hi => bounds_i32 (b1 i hi), fun i hi => bounds_i32 (b2 i hi), fun i hi => bounds_i8 (b4 i hi)⟩
  clear hA0 hval0
  refine (walk6 a0 a1 a2 a3 a4 len0 cap0 len1 cap1 len2 cap2 len3 cap3 len4 cap4 f0 f1 f2 f3 f4 a5 v6 W hArgs w6).mono fun e W' ⟨he, bel⟩ => ?_
  subst he
  exact ⟨_, rfl, _, _, _, [], _, [], hW', trodAll_mk1 (shut_bool Try.underlying4 _), (trodAll_cons_mk (Below.trod laidOut (by kernel_rfl) (of_decide_eq_true (by kernel_rfl)) h0 bel lt0) (trodAll_cons_mk (Below.trod laidOut (by kernel_rfl) (of_decide_eq_true (by kernel_rfl)) h1 bel lt1) (trodAll_cons_mk (Below.trod laidOut (by kernel_rfl) (of_decide_eq_true (by kernel_rfl)) h2 bel lt2) (trodAll_cons_mk (Below.trod laidOut (by kernel_rfl) (of_decide_eq_true (by kernel_rfl)) h3 bel lt3)
    (trodAll_cons_mk (Below.trod laidOut (by kernel_rfl) (of_decide_eq_true (by kernel_rfl)) h4 bel lt4) (trodAll_cons_mk (shut_int Try.underlying3 w5) (trodAll_cons_mk (Below.trod laidOut (by kernel_rfl) (of_decide_eq_true (by kernel_rfl)) h6 bel lt6) trodAll_mk0))))))), rfl, bel.frame _, fun h => by cases h⟩

theorem over : Rows.fnTowardsTradesRowsWhenValuesSwapRow.holds Try.pinned (OpenSpec.ofChange Rows.fnTowardsTradesRowsWhenValuesSwapSpec) :=
  OpenClaim.holds_of_wide 6 Try.f6 rfl rfl rfl rfl rfl rfl rfl ⟨rfl, rfl, rfl, rfl, rfl⟩ rfl rfl rfl rfl rfl (by kernel_rfl) Try.func6 (by kernel_rfl)
    (of_decide_eq_true (by kernel_rfl)) (by unfold Func.isWrapper; first | (rw [if_pos (by decide +kernel)]; kernel_rfl) | (rw [if_neg (by decide +kernel)]; exact ⟨rfl, rfl⟩))
    (fun os started H enc _ => lifted os started H enc)

/-- THE STATEMENT. -/
theorem proved : Rows.FnTowardsTradesRowsWhenValuesSwapSaid := over
end Go.Proofs.Qxb6604786a.fnTowardsTradesRowsWhenValuesSwap
