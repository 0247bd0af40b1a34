import Derived.Test.Qxb6602971aDoorRows
import Derived.WalkKit
import Derived.Below
import Derived.Laws.Bits64b
namespace Go.Proofs.Qxb6602971aDoor
open Go.RowKit

theorem hide {p : Prop} (h : p) : Hid p := h

/-- The low two bits. -/
theorem low_two (p : Int) (h0 : 0 ≤ p) (h1 : p ≤ 18446744073709551615) : 0 ≤ bits .and .u64 p 3 ∧ bits .and .u64 p 3 ≤ 3 := by
  have h := bits_and_u64_nat p.toNat 3 (by omega) (by omega)
  rw [Int.toNat_of_nonneg h0] at h
  have h3 : p.toNat &&& 3 ≤ 3 := Nat.and_le_right
  have e : ((3 : Nat) : Int) = 3 := rfl
  rw [e] at h
  rw [h]
  omega

set_option maxRecDepth 100000 in
set_option maxHeartbeats 1000000 in
theorem limited_any (p : Int) (w : World) : Calls Tryd.prog 10 #[.int .u64 p] w fun e w' => e = .returned (.bool (bits .and .u64 p 3 == 3)) ∧ w' = w := by
  go_enter Tryd.func10, Tryd.ntmps10
  go_wp2
  go_ret
  exact ⟨rfl, rfl⟩

/-- The call hands back a state. -/
def StateOf (e : Ending) : Prop := ∃ s : Int, e = .returned (.int .i64 s) ∧ (s = 0 ∨ s = 1 ∨ s = 2)
theorem stateOf {s : Int} (h : s = 0 ∨ s = 1 ∨ s = 2) : StateOf (.returned (.int .i64 s)) := ⟨s, rfl, h⟩

set_option maxRecDepth 100000 in
set_option maxHeartbeats 1000000 in
theorem state_any (p : Int) (w : World) (h0 : 0 ≤ p) (h1 : p ≤ 18446744073709551615) : Calls Tryd.prog 8 #[.int .u64 p] w fun e w' => StateOf e ∧ w' = w := by
  obtain ⟨l0, l1⟩ := low_two p h0 h1
  have H := hide (limited_any p w)
  obtain ⟨x, hx⟩ : ∃ x, x = bits .and .u64 p 3 := ⟨_, rfl⟩
  rw [← hx] at l0 l1 H
  go_enter Tryd.func8, Tryd.ntmps8
  go_wp2_with fail
  refine H.out.mono ?_
  rintro e w1 ⟨rfl, hw⟩
  obtain rfl : w = w1 := hw.symm
  clear H hw
  cases h3 : (x == 3)
  · have hne : x ≠ 3 := by simpa using h3
    have hs : bits .and .u64 p 3 = x := hx.symm
    clear hx h3
    go_wp2
    go_ret
    exact ⟨stateOf (by omega), rfl⟩
  · clear hx h3
    go_wp2
    go_ret
    exact ⟨stateOf (Or.inl rfl), rfl⟩

set_option maxRecDepth 100000 in
set_option maxHeartbeats 1000000 in
theorem zz_any (p : Int) (w : World) (h0 : 0 ≤ p) (h1 : p ≤ 18446744073709551615) : Calls Tryd.prog 6 #[.int .u64 p] w fun e w' => StateOf e ∧ w' = w := by
  have H := hide (state_any p w h0 h1)
  go_enter Tryd.func6, Tryd.ntmps6
  go_wp2_with fail
  refine H.out.mono ?_
  rintro e w1 ⟨⟨s, rfl, hs⟩, hw⟩
  obtain rfl : w = w1 := hw.symm
  have HS := hide hs
  clear H hw hs
  go_wp2
  go_ret
  exact ⟨stateOf HS.out, rfl⟩

def nameOf (s : Int) : ByteArray := if s = 0 then ⟨#[99, 108, 111, 115, 101, 100]⟩ else if s = 1 then ⟨#[111, 112, 101, 110]⟩ else ⟨#[104, 97, 108, 102, 45, 111, 112, 101, 110]⟩

set_option maxRecDepth 100000 in
set_option maxHeartbeats 1000000 in
theorem string_any (s : Int) (w : World) (hs : s = 0 ∨ s = 1 ∨ s = 2) : Calls Tryd.prog 5 #[.int .i64 s] w fun e w' => e = .returned (.string (nameOf s)) ∧ w' = w := by
  rcases hs with rfl | rfl | rfl
  all_goals
    go_enter Tryd.func5, Tryd.ntmps5
    go_wp2
    go_ret
    exact ⟨rfl, rfl⟩

set_option maxRecDepth 100000 in
set_option maxHeartbeats 1000000 in
theorem walk4 (p : Int) (w : World) (h0 : 0 ≤ p) (h1 : p ≤ 18446744073709551615) : Calls Tryd.prog 4 #[.int .u64 p] w fun e w' => e = .returned (.bool true) ∧ w' = w := by
  have H := hide (zz_any p w h0 h1)
  go_enter Tryd.func4, Tryd.ntmps4
  go_wp2_with fail
  refine H.out.mono ?_
  rintro e w1 ⟨⟨s, rfl, hs⟩, hw⟩
  obtain rfl : w = w1 := hw.symm
  have H2 := hide (string_any s w hs)
  clear H hw
  rcases hs with rfl | rfl | rfl
  all_goals
    go_wp2_with fail
    refine H2.out.mono ?_
    rintro e w1 ⟨rfl, hw⟩
    obtain rfl : w = w1 := hw.symm
    clear H2 hw
    simp only [nameOf]
    go_wp2
    go_ret
    exact ⟨rfl, rfl⟩
end Go.Proofs.Qxb6602971aDoor
