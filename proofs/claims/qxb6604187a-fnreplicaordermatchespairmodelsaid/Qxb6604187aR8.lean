import Derived.Test.Qxb6604187aR6
import Derived.Test.Qxb6604187aR7
namespace Go.Proofs.Qxb6604187a
open Go.RowKit

set_option maxHeartbeats 400000 in
theorem zr_any (v sec : Int) (b off n cap : Nat) (ops : Nat → OpR) (w : World) (hn : n ≤ maxLen) (hops : OpsAt w b off ops n) (hf : ∀ i, i < n → OpFine (ops i)) :
    Calls Try.prog 6 #[.slice (some ⟨b, off, none⟩) n cap, .int .u64 v, .int .u64 sec] w fun e w' => SomeBool e ∧ w' = w := by
  unfold maxLen at hn
  by_cases h1 : (1048576 : Int) < n
  · go_enter Try.func6, Try.ntmps6
    go_wp2
    go_ret
    exact ⟨someBool _, rfl⟩
  go_enter Try.func6, Try.ntmps6
  go_wp2
  go_loop [7, 8] (fun z i => ∃ (k : Nat) (q : Int), k ≤ n ∧ i = .int .i64 k ∧ z = .int .i64 q ∧ 0 ≤ q ∧ q ≤ 1048576) (fun _ i => n - (intOf i).toNat)
  case atStart => exact ⟨0, n, Nat.zero_le _, rfl, rfl, by omega, by omega⟩
  case round =>
    obtain ⟨k, q, hk, rfl, rfl, hq0, hq1⟩ := hrel
    by_cases hlt : k < n
    · obtain ⟨c0, c1, c2, c3, c4, c5, c6, c7, c8⟩ := hops k hlt
      have hf1 := (hf k hlt).key
      have hf2 := (hf k hlt).repl
      unfold maxLen at hf1 hf2
      generalize ops k = o at *
      go_wp2
      iterate 4 (· go_ret; exact ⟨someBool _, rfl⟩)
      go_round
      case rel => exact ⟨k + 1, _, by omega, by go_num, rfl, by omega, by omega⟩
      case measure => simp [intOf]; omega
    · go_wp2
      go_ret
      exact ⟨someBool _, rfl⟩

set_option maxHeartbeats 400000 in
theorem zr_nil (v sec : Int) (ad : Option Addr) (cap : Nat) (w : World) :
    Calls Try.prog 6 #[.slice ad 0 cap, .int .u64 v, .int .u64 sec] w fun e w' => SomeBool e ∧ w' = w := by
  go_enter Try.func6, Try.ntmps6
  go_wp2
  refine wp_loop_rounds 1 ?_
  rw [rounds_succ]
  go_wp2
  go_ret
  exact ⟨someBool _, rfl⟩

theorem zr_both {w : World} {a : Option Addr} {n cap : Nat} {ops : Nat → OpR} (h : IsOps w a n ops) (v sec : Int) :
    Calls Try.prog 6 #[.slice a n cap, .int .u64 v, .int .u64 sec] w fun e w' => SomeBool e ∧ w' = w := by
  obtain ⟨hm, hf, rfl | ⟨b, off, rfl, hb, ho⟩⟩ := h
  · exact zr_nil v sec a cap w
  · exact zr_any v sec b off n cap ops w hm ho hf
theorem ln_both {w : World} {a : Option Addr} {n cap : Nat} {ops : Nat → OpR} (h : IsOps w a n ops) (hn : n ≤ 4096) :
    Calls Try.prog 8 #[.slice a n cap] w fun e w' => LinesSaid ops n e ∧ Below w.heap.size w w' := by
  obtain ⟨_, hf, rfl | ⟨b, off, rfl, hb, ho⟩⟩ := h
  · exact lines_nil a cap ops w
  · exact lines_any b off n cap ops w hn hb ho hf
theorem rm_both {w : World} {a : Option Addr} {n cap : Nat} {ops : Nat → OpR} (h : IsOps w a n ops) (hn : n ≤ 4096) :
    Calls Try.prog 11 #[.slice a n cap] w fun e w' => e = .returned (.int .i64 (rTo ops n n)) ∧ Below w.heap.size w w' := by
  obtain ⟨_, _, rfl | ⟨b, off, rfl, hb, ho⟩⟩ := h
  · exact rm_nil a cap ops w
  · exact rm_any b off n cap ops w hn hb ho

set_option maxRecDepth 100000 in
set_option maxHeartbeats 400000 in
theorem zf_any (hb n : Nat) (vs sec : Int) (ops : Nat → OpR) (w : World) (hn : n ≤ 4096) (hist : HistAt w hb ops n) (hfine : ∀ i, i < n → OpFine (ops i)) (hsz : hb + 1 + n ≤ w.heap.size) (hline : LinesFine ops n) :
    Calls Try.prog 9 #[.slice (some ⟨hb, 0, none⟩) n n, .agg #[.int .u64 vs, .int .u64 sec]] w fun e w' => e = .returned (.int .i64 (rTo ops n n)) ∧ Below w.heap.size w w' := by
  have hB : Below w.heap.size w (w.alloc (.cells #[.int .u64 vs, .int .u64 sec] 32)) := (Below.refl _ _).alloc (Nat.le_refl _) _
  have hcon := fo_any hb n vs sec ops (w.alloc (.cells #[.int .u64 vs, .int .u64 sec] 32)) hn (hist.below hB hsz) hfine (by simp; omega) hline
  have HC := hide hcon
  clear hcon hist hfine hline
  generalize rTo ops n n = r at *
  go_enter Try.func9, Try.ntmps9
  go_wp2_with fail
  refine HC.out.mono ?_
  rintro e w1 ⟨rfl, hb1⟩
  have hbb := hB.trans (hb1.mono (by simp))
  clear hb1 hB HC
  go_wp2
  go_ret
  exact ⟨rfl, hbb⟩

set_option maxRecDepth 100000 in
set_option maxHeartbeats 400000 in
theorem walk3 (a : Option Addr) (n cap : Nat) (ops : Nat → OpR) (vs sec : Int) (w : World) (h : IsOps w a n ops) :
    Calls Try.prog 3 #[.slice a n cap, .int .u64 vs, .int .u64 sec] w fun e w' => e = .returned (.bool true) ∧ Below w.heap.size w w' := by
  have hmx := h.1
  unfold maxLen at hmx
  have H := hide h
  have hzz := hide (zr_both (cap := cap) h vs sec)
  clear h
  go_enter Try.func3, Try.ntmps3
  go_wp2_with fail
  refine hzz.out.mono ?_
  rintro e w' ⟨⟨r, rfl⟩, rfl⟩
  clear hzz
  cases r
  · go_wp2
    go_ret
    exact ⟨rfl, Below.refl _ _⟩
  by_cases hn : (4096 : Int) < n
  · go_wp2
    go_ret
    exact ⟨rfl, Below.refl _ _⟩
  have hob := hide (ob_both (cap := cap) H.out)
  go_wp2_with fail
  refine hob.out.mono ?_
  rintro e w1 ⟨⟨t, rfl⟩, m, rfl⟩
  clear hob
  have B1 : Below w'.heap.size w' (w'.drewN m) := below_drewN (Below.refl _ _) m
  by_cases ht : 1048576 < t
  · go_wp2
    go_ret
    exact ⟨rfl, B1⟩
  have H1 := hide (H.out.below B1)
  have hln := hide (ln_both (cap := cap) H1.out (by omega))
  have HB1 := hide B1
  clear B1
  go_wp2_with fail
  refine hln.out.mono ?_
  rintro e w2 ⟨⟨r, rfl, hr⟩, hb2⟩
  have HB2 : Hid (Below w'.heap.size w' w2) := HB1.out.trans hb2
  clear hln hb2
  cases r
  · clear hr
    go_wp2
    go_ret
    exact ⟨rfl, HB2.out⟩
  have HL := hide (hr rfl)
  clear hr
  have hth := hide (th_both (cap := cap) (H.out.below HB2.out) (by omega))
  go_wp2_with fail
  refine hth.out.mono ?_
  rintro e w3 ⟨rfl, hist⟩
  have HB3 : Hid (Below w'.heap.size w' w3) := HB2.out.trans (hist.bel.mono HB2.out.size)
  have hzf := hide (zf_any w2.heap.size n vs sec ops w3 (by omega) ⟨hist.done, hist.ver⟩ H.out.2.1 (by rw [hist.size]; omega) HL.out)
  clear hist hth
  go_wp2_with fail
  refine hzf.out.mono ?_
  rintro e w4 ⟨rfl, hb4⟩
  have HB4 : Hid (Below w'.heap.size w' w4) := HB3.out.trans (hb4.mono HB3.out.size)
  clear hb4 hzf
  have hrm := hide (rm_both (cap := cap) (H.out.below HB4.out) (by omega))
  generalize rTo ops n n = r at *
  go_wp2_with fail
  refine hrm.out.mono ?_
  rintro e w5 ⟨rfl, hb5⟩
  have HB5 : Hid (Below w'.heap.size w' w5) := HB4.out.trans (hb5.mono HB4.out.size)
  clear hb5 hrm
  go_wp2
  go_ret
  exact ⟨by simp, HB5.out⟩
end Go.Proofs.Qxb6604187a
