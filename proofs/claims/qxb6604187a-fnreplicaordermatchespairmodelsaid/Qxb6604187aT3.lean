import Derived.Test.Qxb6604187aBase
import Derived.Deep.RegionHeld3
import Derived.Deep.MidRow
import Derived.StillTailTactics
namespace Go.Proofs.Qxb6604187a
open Go.RowKit

theorem Try.zero57 : ((Try.prog.info? 57).bind (·.zero)).isSome = true := by kernel_rfl
theorem Try.info57s : (Try.prog.info? 57).map (fun i => (i.size, i.bytes)) = some (14, 144) := by kernel_rfl
theorem Try.info57 : ∃ z, (Try.prog.info? 57).map (fun i => (i.zero, i.size, i.bytes)) = some (some z, 14, 144) := by
  obtain ⟨z, hz⟩ := Option.isSome_iff_exists.1 Try.zero57
  have h := Try.info57s
  cases hq : Try.prog.info? 57 with
  | none => simp [hq] at h
  | some i => simp [hq] at h hz; exact ⟨z, by simp [h, hz]⟩
theorem Try.size57 : (Try.prog.info? 57).map (·.size) = some 14 := by kernel_rfl

theorem make57 (n : Nat) (hn : n ≤ 4096) : ∃ C : Array Value, C.size = n * 14 ∧ ∀ w : World, (Instr.makeSlice 29 (.int .i64 (n : Int)) (.int .i64 (n : Int))).run Try.prog w = .ok (.slice (some ⟨w.heap.size, 0, none⟩) n n) (w.alloc (.cells C 57)) := by
  obtain ⟨z, hi⟩ := Try.info57
  cases hq : Try.prog.info? 57 with
  | none => simp [hq] at hi
  | some i =>
    simp only [hq, Option.map_some, Option.some.injEq, Prod.mk.injEq] at hi
    obtain ⟨hz, h1, h2⟩ := hi
    refine ⟨madeCells z.cells (n * 14), size_madeCells _ _, fun w => ?_⟩
    have := run_make (P := Try.prog) w 29 57 i z Try.underlying29 hq hz .i64 .i64 n n (by omega) (by omega) (by rw [h2]; omega) (by omega)
    rw [h1] at this
    simpa using this

/-- The fourteen cells of an operation of the history. -/
def histCells (o : OpR) (pv : Addr) : List Value := [.int .i64 o.proc, .int .i64 o.func, .string o.key, .int .i64 o.outcome, .string ByteArray.empty, .string ByteArray.empty, .int .i64 o.inv, .int .i64 o.comp, .pointer none, .pointer none, .pointer (some pv), .bool o.absent, .string o.repl, .bool false]


theorem hist_one (o : OpR) (pv : Addr) : (histCells o pv).toArray.all (·.oneCell') = true := by simp [histCells, Value.oneCell']
theorem hist_len (o : OpR) (pv : Addr) : (histCells o pv).length = 14 := rfl

theorem heap_setCells (b : Nat) : ∀ (vs : List Value) (o : Nat) (w : World) (i : Nat), i ≠ b → (w.setCells b o vs).heap[i]? = w.heap[i]?
  | [], _, _, _, _ => rfl
  | v :: r, o, w, i, h => by
    rw [World.setCells, heap_setCells b r (o + 1) _ i h]
    exact Below.heap_setCell _ _ _ _ h
theorem size_setCells (b : Nat) : ∀ (vs : List Value) (o : Nat) (w : World), (w.setCells b o vs).heap.size = w.heap.size
  | [], _, _ => rfl
  | v :: r, o, w => by
    rw [World.setCells, size_setCells b r (o + 1) _]
    simp [World.setCell]
theorem rest_setCells (b : Nat) : ∀ (vs : List Value) (o : Nat) (w : World), (w.setCells b o vs).os = w.os ∧ (w.setCells b o vs).tape = w.tape ∧ (w.setCells b o vs).output = w.output
  | [], _, _ => ⟨rfl, rfl, rfl⟩
  | v :: r, o, w => by
    rw [World.setCells]
    exact rest_setCells b r (o + 1) _
theorem below_setCells {B : Nat} {a w : World} (h : Below B a w) {b : Nat} (hb : B ≤ b) (o : Nat) (vs : List Value) : Below B a (w.setCells b o vs) :=
  h.trans ⟨(rest_setCells b vs o w).1, (rest_setCells b vs o w).2.1, (rest_setCells b vs o w).2.2, by rw [size_setCells]; exact Nat.le_refl _, fun i hi => heap_setCells b vs o w i (by omega)⟩

/-- What the history's loop keeps: k operations are written. -/
structure HistTo (w wr : World) (ops : Nat → OpR) (n k : Nat) : Prop where
  size : wr.heap.size = w.heap.size + 1 + k
  bel : Below w.heap.size w wr
  th : wr.there w.heap.size 0 (n * 14)
  done : ∀ i, i < k → wr.rangeAt w.heap.size (i * 14) (histCells (ops i) ⟨w.heap.size + 1 + i, 0, none⟩)
  ver : ∀ i, i < k → wr.cell? ⟨w.heap.size + 1 + i, 0, none⟩ = some (.int .u64 (ops i).ver)

theorem HistTo.start (w : World) (ops : Nat → OpR) (n : Nat) (C : Array Value) (hC : C.size = n * 14) : HistTo w (w.alloc (.cells C 57)) ops n 0 where
  size := by simp
  bel := (Below.refl _ _).alloc (Nat.le_refl _) _
  th := fun j hj => by
    have hb : (w.alloc (.cells C 57)).heap[w.heap.size]? = some (.cells C 57) := heap_alloc_new w _
    constructor
    · simp only [World.cell?, hb]
      simp; omega
    · simp only [World.frozen?, hb]
      simp
  done := fun i hi => absurd hi (Nat.not_lt_zero _)
  ver := fun i hi => absurd hi (Nat.not_lt_zero _)

theorem HistTo.step {w wr : World} {ops : Nat → OpR} {n k : Nat} (h : HistTo w wr ops n k) (hk : k < n) :
    HistTo w ((wr.alloc (.cells #[.int .u64 (ops k).ver] 23)).drew.setCells w.heap.size (k * 14) (histCells (ops k) ⟨w.heap.size + 1 + k, 0, none⟩)) ops n (k + 1) := by
  have hne : w.heap.size < wr.heap.size := by rw [h.size]; omega
  have hth : (wr.alloc (.cells #[.int .u64 (ops k).ver] 23)).drew.there w.heap.size 0 (n * 14) := World.there_alloc h.th _
  refine ⟨?_, ?_, ?_, ?_, ?_⟩
  · rw [size_setCells]
    show (wr.alloc _).heap.size = _
    simp [h.size]; omega
  · exact below_setCells ((h.bel.alloc (by omega) _).drew) (Nat.le_refl _) _ _
  · exact World.there_setCells hth _ _ _
  · intro i hi
    rcases Nat.lt_succ_iff_lt_or_eq.1 hi with hi | rfl
    · exact World.rangeAt_setCells_apart (by exact World.rangeAt_alloc (h.done i hi) _) _ _ _ (by simp only [hist_len]; omega)
    · refine World.rangeAt_setCells_same _ _ _ _ (fun j hj => ?_)
      have := hth (i * 14 + j) (by simp only [hist_len] at hj; omega)
      simpa using this
  · intro i hi
    rw [World.cell?_setCells_out _ _ _ _ _ (fun e => by simp at e; omega)]
    rcases Nat.lt_succ_iff_lt_or_eq.1 hi with hi | rfl
    · rw [show ((wr.alloc (.cells #[.int .u64 (ops k).ver] 23)).drew.cell? ⟨w.heap.size + 1 + i, 0, none⟩) = (wr.alloc (.cells #[.int .u64 (ops k).ver] 23)).cell? ⟨w.heap.size + 1 + i, 0, none⟩ from rfl]
      rw [Below.cell (B := wr.heap.size) ((Below.refl _ _).alloc (Nat.le_refl _) _) (by simp; rw [h.size]; omega)]
      exact h.ver i hi
    · have hb : (wr.alloc (.cells #[.int .u64 (ops i).ver] 23)).heap[w.heap.size + 1 + i]? = some (.cells #[.int .u64 (ops i).ver] 23) := by
        rw [← h.size]; exact heap_alloc_new wr _
      show (wr.alloc _).cell? _ = _
      simp only [World.cell?, hb]
      simp

set_option maxRecDepth 100000 in
set_option maxHeartbeats 1000000 in
theorem th_any (b off n cap : Nat) (ops : Nat → OpR) (w : World) (hn : n ≤ 4096) (hb : b < w.heap.size) (hops : OpsAt w b off ops n) :
    Calls Try.prog 10 #[.slice (some ⟨b, off, none⟩) n cap] w fun e w' => e = .returned (.slice (some ⟨w.heap.size, 0, none⟩) n n) ∧ HistTo w w' ops n n := by
  obtain ⟨C, hC, hmk⟩ := make57 n hn
  go_enter Try.func10, Try.ntmps10
  go_wp2
  go_loopw [4] (fun i wr => ∃ k : Nat, k ≤ n ∧ i = .int .i64 k ∧ HistTo w wr ops n k) (fun i _ => n - (intOf i).toNat)
  case atStart => exact ⟨0, Nat.zero_le _, rfl, HistTo.start w ops n C hC⟩
  case round =>
    obtain ⟨k, hk, rfl, hist⟩ := hrel
    by_cases hlt : k < n
    · obtain ⟨c0, c1, c2, c3, c4, c5, c6, c7, c8⟩ := (hops k hlt).below hist.bel hb
      have hsz := hist.size
      have R := hist.step hlt
      have hth' : wr.there w.heap.size (k * 14) 14 := fun j hj => by have := hist.th (k * 14 + j) (by omega); simpa using this
      generalize ops k = o at *
      have HR := hide R
      clear R hmk hist hops
      go_wp2
      obtain ⟨W, hW, d, dth⟩ : ∃ W, W = wr.alloc (.cells #[.int .u64 o.ver] 23) ∧ OpAt W b (off + k * 9) o ∧ W.there w.heap.size (k * 14) 14 :=
        ⟨_, rfl, (⟨c0, c1, c2, c3, c4, c5, c6, c7, c8⟩ : OpAt wr b (off + k * 9) o).below ((Below.refl _ _).alloc (Nat.le_refl _) _) (by omega), World.there_alloc hth' _⟩
      rw [← hW]
      unfold Hid at HR
      rw [← hW] at HR
      have HR := hide HR
      clear hW c0 c1 c2 c3 c4 c5 c6 c7 c8 hth' hsz
      obtain ⟨c0, c1, c2, c3, c4, c5, c6, c7, c8⟩ := d
      refine region_tail 44 (by kernel_rfl) (by kernel_rfl) ?_
      simp only [List.take_succ_cons, List.take_zero, List.drop_succ_cons, List.drop_zero]
      repeat still_step
      refine wpStill_nil ?_
      clear c0 c1 c2 c3 c4 c5 c6 c7 c8
      refine wpList_store_mid (by rfl) 57 _ _ (by rfl) w.heap.size (k * 14) (histCells o ⟨w.heap.size + 1 + k, 0, none⟩).toArray (by rfl) (by rfl) (by exact dth) (by exact Try.size57) (hist_one _ _) ?_
      generalize W.drew.setCells w.heap.size (k * 14) (histCells o ⟨w.heap.size + 1 + k, 0, none⟩) = X at *
      go_wp2
      go_roundw
      case rel => exact ⟨k + 1, by omega, by go_num, HR.out⟩
      case measure => simp [intOf]; omega
    · have : k = n := by omega
      subst this
      go_wp2
      go_ret
      exact ⟨rfl, hist⟩

set_option maxRecDepth 100000 in
set_option maxHeartbeats 400000 in
theorem th_nil (ad : Option Addr) (cap : Nat) (ops : Nat → OpR) (w : World) :
    Calls Try.prog 10 #[.slice ad 0 cap] w fun e w' => e = .returned (.slice (some ⟨w.heap.size, 0, none⟩) 0 0) ∧ HistTo w w' ops 0 0 := by
  obtain ⟨C, hC, hmk⟩ := make57 0 (by omega)
  replace hmk : ∀ w : World, (Instr.makeSlice 29 (.int .i64 0) (.int .i64 0)).run Try.prog w = .ok (.slice (some ⟨w.heap.size, 0, none⟩) 0 0) (w.alloc (.cells C 57)) := hmk
  go_enter Try.func10, Try.ntmps10
  go_wp2
  refine wp_loop_rounds 1 ?_
  rw [rounds_succ]
  go_wp2
  go_ret
  exact ⟨rfl, HistTo.start w ops 0 C hC⟩
end Go.Proofs.Qxb6604187a
