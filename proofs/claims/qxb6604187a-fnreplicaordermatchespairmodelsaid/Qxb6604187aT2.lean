import Derived.Test.Qxb6604187aBase
import Derived.Deep.QuietTactic
import Derived.BigQuiet
namespace Go.Proofs.Qxb6604187a
open Go.RowKit

set_option maxHeartbeats 400000 in
theorem ob_any (b off n cap : Nat) (ops : Nat → OpR) (w : World) (hn : n ≤ maxLen) (hops : OpsAt w b off ops n) (hf : ∀ i, i < n → OpFine (ops i)) :
    Calls Try.prog 7 #[.slice (some ⟨b, off, none⟩) n cap] w fun e w' => SomeInt e ∧ ∃ m, w' = w.drewN m := by
  unfold maxLen at hn
  go_enter Try.func7, Try.ntmps7
  go_wp2
  go_loopw [3, 4] (fun z i wr => ∃ (k m : Nat) (q : Int), k ≤ n ∧ i = .int .i64 k ∧ z = .int .i64 q ∧ 0 ≤ q ∧ q ≤ 1048576 ∧ wr = w.drewN m) (fun _ i _ => n - (intOf i).toNat)
  case atStart => exact ⟨0, 0, 0, Nat.zero_le _, rfl, rfl, by omega, by omega, rfl⟩
  case round =>
    obtain ⟨k, m, q, hk, rfl, rfl, hq0, hq1, rfl⟩ := hrel
    by_cases hlt : k < n
    · obtain ⟨c0, c1, c2, c3, c4, c5, c6, c7, c8⟩ := hops k hlt
      have hf1 := (hf k hlt).key
      have hf2 := (hf k hlt).repl
      unfold maxLen at hf1 hf2
      generalize ops k = o at *
      by_cases ho1 : (1048576 : Int) < o.key.size
      · go_wp2
        go_ret
        exact ⟨someInt _, _, rfl⟩
      by_cases ho2 : (1048576 : Int) < o.repl.size
      · go_wp2
        go_ret
        exact ⟨someInt _, _, rfl⟩
      go_wp2
      go_quiet (fail)
      go_wp2
      · go_ret
        exact ⟨someInt _, _, rfl⟩
      go_roundw
      case rel => exact ⟨k + 1, _, _, by omega, by go_num, rfl, by omega, by omega, rfl⟩
      case measure => simp [intOf]; omega
    · go_wp2
      go_ret
      exact ⟨someInt _, _, rfl⟩

set_option maxHeartbeats 400000 in
theorem ob_nil (ad : Option Addr) (cap : Nat) (w : World) :
    Calls Try.prog 7 #[.slice ad 0 cap] w fun e w' => SomeInt e ∧ ∃ m, w' = w.drewN m := by
  go_enter Try.func7, Try.ntmps7
  go_wp2
  refine wp_loop_rounds 1 ?_
  rw [rounds_succ]
  go_wp2
  go_ret
  exact ⟨someInt _, 0, rfl⟩
end Go.Proofs.Qxb6604187a
