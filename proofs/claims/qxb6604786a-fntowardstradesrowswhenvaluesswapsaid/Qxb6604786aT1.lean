import Derived.Test.Qxb6604786aBase
namespace Go.Proofs.Qxb6604786a
open Go.RowKit

set_option maxRecDepth 100000 in
set_option maxHeartbeats 1000000 in
theorem zz_nil (a0 a1 a2 a3 a4 : Option Addr) (n0 c0 n1 c1 n2 c2 n3 c3 n4 c4 : Nat) (r : Int) (w : World) (h0 : n0 ≤ maxLen) (h1 : n1 ≤ maxLen) (h2 : n2 ≤ maxLen) (h3 : n3 ≤ maxLen) (h4 : n4 ≤ maxLen) :
    Calls Try.prog 14 #[.slice a0 n0 c0, .slice a1 n1 c1, .slice a2 n2 c2, .slice a3 n3 c3, .slice a4 n4 c4, .int .i64 r, .pointer none] w fun e w' => SomeBool e ∧ w' = w := by
  unfold maxLen at h0 h1 h2 h3 h4
  go_enter Try.func14, Try.ntmps14
  go_wp2
  all_goals (go_ret; exact ⟨someBool _, rfl⟩)

set_option maxRecDepth 100000 in
set_option maxHeartbeats 1000000 in
theorem zz_any (a0 a1 a2 a3 a4 b0 b1 : Option Addr) (n0 c0 n1 c1 n2 c2 n3 c3 n4 c4 m0 e0 m1 e1 b off : Nat) (r : Int) (w : World) (h0 : n0 ≤ maxLen) (h1 : n1 ≤ maxLen) (h2 : n2 ≤ maxLen) (h3 : n3 ≤ maxLen) (h4 : n4 ≤ maxLen) (h5 : m0 ≤ maxLen) (h6 : m1 ≤ maxLen) (hR : TwoRows w b off b0 b1 m0 e0 m1 e1) :
    Calls Try.prog 14 #[.slice a0 n0 c0, .slice a1 n1 c1, .slice a2 n2 c2, .slice a3 n3 c3, .slice a4 n4 c4, .int .i64 r, .pointer (some ⟨b, off, none⟩)] w fun e w' => SomeBool e ∧ w' = w := by
  unfold maxLen at h0 h1 h2 h3 h4 h5 h6
  obtain ⟨r0, r1⟩ := hR
  go_enter Try.func14, Try.ntmps14
  go_wp2
  iterate 9 (· go_ret; exact ⟨someBool _, rfl⟩)
  refine wp_loop_rounds 3 ?_
  rw [rounds_succ]
  go_wp2
  iterate 2 (· go_ret; exact ⟨someBool _, rfl⟩)
  rw [rounds_succ]
  go_wp2
  iterate 2 (· go_ret; exact ⟨someBool _, rfl⟩)
  rw [rounds_succ]
  go_wp2
  go_ret
  exact ⟨someBool _, rfl⟩
end Go.Proofs.Qxb6604786a
