import Derived.Test.Qxb6604187aBase
import Derived.BigQuiet
namespace Go.Proofs.Qxb6604187a
open Go.RowKit

set_option maxHeartbeats 400000 in
theorem zz_any (a t : Int) (s h : Bool) (v sec : Int) (b off n cap : Nat) (ops : Nat → OpR) (w : World) (hn : n ≤ maxLen) (hops : OpsAt w b off ops n) (hf : ∀ i, i < n → OpFine (ops i)) :
    Calls Try.prog 12 #[.int .i64 a, .int .i64 t, .bool s, .bool h, .slice (some ⟨b, off, none⟩) n cap, .int .u64 v, .int .u64 sec] w fun e w' => SomeBool e ∧ w' = w := by
  unfold maxLen at hn
  by_cases h1 : (1048576 : Int) < n
  · go_enter Try.func12, Try.ntmps12
    go_wp2
    go_ret
    exact ⟨someBool _, rfl⟩
  go_enter Try.func12, Try.ntmps12
  go_wp2
  go_loop [15, 16] (fun z i => ∃ (k : Nat) (q : Int), k ≤ n ∧ i = .int .i64 k ∧ z = .int .i64 q ∧ 0 ≤ q ∧ q ≤ 1048576) (fun _ i => n - (intOf i).toNat)
  case atStart => exact ⟨0, n, Nat.zero_le _, rfl, rfl, by omega, by omega⟩
  case round =>
    obtain ⟨k, q, hk, rfl, rfl, hq0, hq1⟩ := hrel
    by_cases hlt : k < n
    · obtain ⟨c0, c1, c2, c3, c4, c5, c6, c7, c8⟩ := hops k hlt
      have hf1 := (hf k hlt).key
      have hf2 := (hf k hlt).repl
      unfold maxLen at hf1 hf2
      generalize ops k = o at *
      go_wp2
      iterate 4 (· go_ret; exact ⟨someBool _, rfl⟩)
      go_round
      case rel => exact ⟨k + 1, _, by omega, by go_num, rfl, by omega, by omega⟩
      case measure => simp [intOf]; omega
    · go_wp2
      go_ret
      exact ⟨someBool _, rfl⟩

set_option maxHeartbeats 400000 in
theorem zz_nil (a t : Int) (s h : Bool) (v sec : Int) (ad : Option Addr) (cap : Nat) (w : World) :
    Calls Try.prog 12 #[.int .i64 a, .int .i64 t, .bool s, .bool h, .slice ad 0 cap, .int .u64 v, .int .u64 sec] w fun e w' => SomeBool e ∧ w' = w := by
  go_enter Try.func12, Try.ntmps12
  go_wp2
  refine wp_loop_rounds 1 ?_
  rw [rounds_succ]
  go_wp2
  go_ret
  exact ⟨someBool _, rfl⟩
end Go.Proofs.Qxb6604187a
