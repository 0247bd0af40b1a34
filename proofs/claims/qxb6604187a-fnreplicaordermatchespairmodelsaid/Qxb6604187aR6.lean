import Derived.Test.Qxb6604187aR5
import Derived.Test.Qxb6604187aL3
import Derived.Test.Qxb6604187aT7
namespace Go.Proofs.Qxb6604187a
open Go.RowKit Go.Maps
attribute [local go_sem] World.cell?_alloc_some cell?_past

/-- What the sweep over the marks keeps. -/
structure RInv (w wr : World) (ops : Nat → OpR) (S : List Mk) (Sf : Nat → Mk) (g t : Nat) (f : Int) : Prop where
  old : Below w.heap.size w wr
  mks : ∀ t (ht : t < S.length) (c : Nat), c < 3 → wr.cell? ⟨g, t * 3 + c, none⟩ = (encM S[t])[c]?
  mp : MapAs wr 78 (w.heap.size + 1) t kv78 ok78 (hiS ops Sf t)
  fc : wr.cell? ⟨w.heap.size + 1 + 1, 0, none⟩ = some (.int .i64 f)
  ff : wr.frozen? ⟨w.heap.size + 1 + 1, 0, none⟩ = false
  ge : w.heap.size + 3 ≤ g
  lt : g < wr.heap.size

theorem RInv.kept {w wr wr' : World} {ops : Nat → OpR} {S : List Mk} {Sf : Nat → Mk} {g t : Nat} {f : Int} (h : RInv w wr ops S Sf g t f) (hB : Below (g + 1) wr wr') : RInv w wr' ops S Sf g t f :=
  have hg := h.ge
  ⟨h.old.trans (hB.mono (by omega)), fun t ht c hc => (hB.cell (by simp)).trans (h.mks t ht c hc), h.mp.kept (hB.block _ (by omega)), (hB.cell (by simp; omega)).trans h.fc, (hB.frozen (by simp; omega)).trans h.ff, hg, Nat.lt_of_lt_of_le h.lt hB.size⟩
theorem RInv.more {w wr : World} {ops : Nat → OpR} {S : List Mk} {Sf : Nat → Mk} {g t : Nat} {f : Int} (h : RInv w wr ops S Sf g t f) (he : hiS ops Sf (t + 1) = hiS ops Sf t) : RInv w wr ops S Sf g (t + 1) f :=
  ⟨h.old, h.mks, by rw [he]; exact h.mp.mono, h.fc, h.ff, h.ge, h.lt⟩
theorem RInv.turned {w wr w' : World} {ops : Nat → OpR} {S : List Mk} {Sf : Nat → Mk} {g t : Nat} {f : Int} (h : RInv w wr ops S Sf g t f) (hm : MapAs w' 78 (w.heap.size + 1) (t + 1) kv78 ok78 (hiS ops Sf (t + 1)))
    (ht : wr.drew.mapTurned w' (w.heap.size + 1)) : RInv w w' ops S Sf g (t + 1) f := by
  have hg := ht.grown
  have h1 := h.ge
  have h2 := h.lt
  have hb : ∀ b, b < wr.heap.size → b ≠ w.heap.size + 1 → w'.heap[b]? = wr.heap[b]? := fun b hb hne => hg.block b hb (by simp; omega)
  have hc : ∀ b q, b < wr.heap.size → b ≠ w.heap.size + 1 → w'.cell? ⟨b, q, Option.none⟩ = wr.cell? ⟨b, q, Option.none⟩ := fun b q h1 h2 => World.cell?_of_block (hb b h1 h2)
  exact ⟨h.old.trans ⟨hg.os, hg.tape, hg.output, hg.size, fun b hlt => hb b (by omega) (by omega)⟩, fun t ht c hcc => (hc _ _ h2 (by omega)).trans (h.mks t ht c hcc), hm, (hc _ _ (by omega) (by omega)).trans h.fc, (ht.frozen _).trans h.ff, h.ge, Nat.lt_of_lt_of_le h2 hg.size⟩
theorem RInv.noted {w wr w' : World} {ops : Nat → OpR} {S : List Mk} {Sf : Nat → Mk} {g t : Nat} {f f' : Int} (h : RInv w wr ops S Sf g t f) (hn : Noted wr w' (w.heap.size + 1 + 1) f') : RInv w w' ops S Sf g t f' := by
  have h1 := h.ge
  have h2 := h.lt
  have hc : ∀ b q, b ≠ w.heap.size + 1 + 1 → w'.cell? ⟨b, q, Option.none⟩ = wr.cell? ⟨b, q, Option.none⟩ := fun b q hb => World.cell?_of_block (hn.block b hb)
  exact ⟨h.old.trans ⟨hn.os, hn.tape, hn.output, Nat.le_of_eq hn.size.symm, fun b hb => hn.block b (by omega)⟩, fun t ht c hcc => (hc _ _ (by omega)).trans (h.mks t ht c hcc), h.mp.kept (hn.block _ (by omega)), hn.cell, (hn.frozen 0).trans h.ff, h.ge, by rw [hn.size]; exact h2⟩

theorem hiS_far {ops : Nat → OpR} {S : Nat → Mk} {t : Nat} (h : ¬ (servedB (ops (S t).2.1) = true ∧ (S t).2.2 = true)) : hiS ops S (t + 1) = hiS ops S t := by
  funext x
  simp only [hiS]
  rw [if_neg (fun e => h ⟨e.1, e.2.1⟩)]
theorem hiS_hit {ops : Nat → OpR} {S : Nat → Mk} {t : Nat} (h1 : servedB (ops (S t).2.1) = true) (h2 : (S t).2.2 = true) : hiS ops S (t + 1) (krOf (ops (S t).2.1)) = some (max ((hiS ops S t (krOf (ops (S t).2.1))).getD 0) (ops (S t).2.1).ver) := by
  simp only [hiS]
  rw [if_pos ⟨h1, h2, trivial⟩]
theorem hiS_other {ops : Nat → OpR} {S : Nat → Mk} {t : Nat} {x : ByteArray × ByteArray} (h : x ≠ krOf (ops (S t).2.1)) : hiS ops S (t + 1) x = hiS ops S t x := by
  simp only [hiS]
  rw [if_neg (fun e => h e.2.2.symm)]
theorem hiS_wf {ops : Nat → OpR} {S : Nat → Mk} : ∀ t, (∀ s, s < t → (Lit.int .u64 (ops (S s).2.1).ver).wf = true) → ∀ x, (Lit.int .u64 ((hiS ops S t x).getD 0)).wf = true
  | 0, _, x => by simp only [hiS]; decide
  | t + 1, h, x => by
    simp only [hiS]
    split
    · exact max_wf (hiS_wf t (fun i hi => h i (by omega)) x) (h t (by omega))
    · exact hiS_wf t (fun i hi => h i (by omega)) x
theorem fS_far {ops : Nat → OpR} {S : Nat → Mk} {t : Nat} (h : ¬ (servedB (ops (S t).2.1) = true ∧ (S t).2.2 = false)) : fS ops S (t + 1) = fS ops S t := by
  simp only [fS]
  rw [if_neg (fun e => h ⟨e.1, e.2.1⟩)]
theorem fS_at {ops : Nat → OpR} {S : Nat → Mk} {t : Nat} (h1 : servedB (ops (S t).2.1) = true) (h2 : (S t).2.2 = false) :
    fS ops S (t + 1) = if (ops (S t).2.1).ver < (hiS ops S t (krOf (ops (S t).2.1))).getD 0 then noteI (fS ops S t) (ops (S t).2.1).comp else fS ops S t := by
  simp only [fS]
  simp [h1, h2]

/-- The three blocks that are laid ahead of the sweep. -/
def foStart (w : World) (vs sec : Int) : World := ((w.alloc (.cells #[.int .u64 vs, .int .u64 sec] 32)).alloc (.map #[] 0)).alloc (.cells #[.int .i64 0] 71)

theorem foStart_size (w : World) (vs sec : Int) : (foStart w vs sec).heap.size = w.heap.size + 3 := by simp [foStart]
theorem foStart_below (w : World) (vs sec : Int) : Below w.heap.size w (foStart w vs sec) :=
  (((Below.refl _ _).alloc (Nat.le_refl _) _).alloc (by simp) _).alloc (by simp; omega) _

theorem RInv.start {w w4 : World} {vs sec : Int} {ops : Nat → OpR} {n g : Nat} {S : List Mk} (Sf : Nat → Mk) (h : MarksAt (foStart w vs sec) w4 ops n g S) : RInv w w4 ops S Sf g 0 0 := by
  have z := foStart_size w vs sec
  have hg := h.ge
  have hb := h.bel
  rw [z] at hg hb
  have hnew : (foStart w vs sec).heap[w.heap.size + 1 + 1]? = some (.cells #[.int .i64 0] 71) := by
    have := heap_alloc_new ((w.alloc (.cells #[.int .u64 vs, .int .u64 sec] 32)).alloc (.map #[] 0)) (.cells #[.int .i64 0] 71)
    rw [show ((w.alloc (.cells #[.int .u64 vs, .int .u64 sec] 32)).alloc (.map #[] 0)).heap.size = w.heap.size + 1 + 1 by simp] at this
    exact this
  refine ⟨(foStart_below w vs sec).trans (hb.mono (by omega)), h.cell, ?_, ?_, ?_, hg, h.lt⟩
  · have hm := MapAs.made (w := w.alloc (.cells #[.int .u64 vs, .int .u64 sec] 32)) 78 kv78 ok78
    rw [show (w.alloc (.cells #[.int .u64 vs, .int .u64 sec] 32)).heap.size = w.heap.size + 1 by simp] at hm
    exact (hm.kept ((hb.block _ (by omega)).trans (Below.heap_alloc _ _ _ (by simp))) : MapAs w4 78 (w.heap.size + 1) 0 kv78 ok78 fun _ => Option.none)
  · rw [hb.cell (by show w.heap.size + 1 + 1 < _; omega)]
    simp only [World.cell?, hnew]; rfl
  · rw [hb.frozen (by show w.heap.size + 1 + 1 < _; omega)]
    simp only [World.frozen?, hnew]; simp

theorem sorted_of {w w' : World} {ops : Nat → OpR} {n g : Nat} {S : List Mk} (h : MarksAt w w' ops n g S) (hl : LinesFine ops n) : SortedMarks ops n S.length (fun t => S.getD t (0, 0, false)) := by
  have hget : ∀ t (ht : t < S.length), S.getD t (0, 0, false) = S[t] := fun t ht => by simp [List.getD, ht]
  have hnd : (S.map (·.1)).Nodup := ((h.perm.map (·.1)).nodup_iff).2 (by rw [marksTo_lines]; exact hl.nodup)
  refine ⟨fun t ht => ?_, fun m hm => ?_, fun s t hst ht => ?_⟩
  · rw [hget t ht]; exact h.perm.mem_iff.1 (List.getElem_mem ht)
  · obtain ⟨t, ht, e⟩ := List.getElem_of_mem (h.perm.mem_iff.2 hm)
    exact ⟨t, ht, by rw [hget t ht]; exact e⟩
  · rw [hget s (by omega), hget t ht]
    have h1 := h.sorted s t hst ht (by omega)
    have h2 := List.pairwise_iff_getElem.1 hnd s t (by simp; omega) (by simpa using ht) hst
    simp only [List.getElem_map] at h2
    omega

set_option maxRecDepth 100000 in
set_option maxHeartbeats 1000000 in
theorem fo_any (hb n : Nat) (vs sec : Int) (ops : Nat → OpR) (w : World) (hn : n ≤ 4096) (hist : HistAt w hb ops n) (hfine : ∀ i, i < n → OpFine (ops i)) (hsz : hb + 1 + n ≤ w.heap.size) (hline : LinesFine ops n) :
    Calls Try.prog 22 #[.slice (some ⟨hb, 0, none⟩) n n, .agg #[.int .u64 vs, .int .u64 sec]] w fun e w' => e = .returned (.int .i64 (rTo ops n n)) ∧ Below w.heap.size w w' := by
  have hmm := @run_makeMap Try.prog
  have hmarks := hide (marks_any hb n ops (foStart w vs sec) hn (hist.below (foStart_below w vs sec) hsz) (by rw [foStart_size]; omega) hfine hline.fine)
  go_enter Try.func22, Try.ntmps22
  go_wp2_with fail
  refine hmarks.out.mono ?_
  rintro e w4 ⟨g, c, S, rfl, hM⟩
  have hlen : S.length ≤ 8192 := by have := hM.perm.length_eq; have := marksTo_len ops n; omega
  obtain ⟨Sf, hSf⟩ : ∃ Sf : Nat → Mk, Sf = fun t => S.getD t (0, 0, false) := ⟨_, rfl⟩
  have hSM : SortedMarks ops n S.length Sf := by rw [hSf]; exact sorted_of hM hline
  have hget : ∀ t (ht : t < S.length), S[t] = Sf t := fun t ht => by rw [hSf]; simp [List.getD, ht]
  have inv0 := RInv.start Sf hM
  have HEQ := hide (f_is_r hSM (fun i hi => fine_ver (hfine i hi)))
  have HSM := hide hSM
  have HGET := hide hget
  clear hSf hM hSM hget hmarks hmm hline
  go_wp2
  go_loopw [15] (fun i wr => ∃ t : Nat, t ≤ S.length ∧ i = .int .i64 t ∧ RInv w wr ops S Sf g t (fS ops Sf t)) (fun i _ => S.length - (intOf i).toNat)
  case atStart => exact ⟨0, Nat.zero_le _, rfl, inv0⟩
  case round =>
    obtain ⟨t, ht, rfl, inv⟩ := hrel
    clear inv0
    by_cases hlt : t < S.length
    · obtain ⟨m, hm⟩ : ∃ m, m = Sf t := ⟨_, rfl⟩
      have hmem := HSM.out.mem t hlt
      rw [← hm] at hmem
      obtain ⟨i, hi, hmi⟩ := (mem_marks ops m n).1 hmem
      have e1 : m.2.1 = i := by rcases hmi with h | ⟨_, h⟩ <;> rw [h]
      have q0 := inv.mks t hlt 0 (by omega)
      have q1 := inv.mks t hlt 1 (by omega)
      have q2 := inv.mks t hlt 2 (by omega)
      rw [HGET.out t hlt, ← hm] at q0 q1 q2
      obtain ⟨l, i', b⟩ := m
      simp only at e1
      subst e1
      simp only [encM, List.getElem?_cons_zero, List.getElem?_cons_succ, Nat.add_zero] at q0 q1 q2
      obtain ⟨a0, a1, a2, a3, a4, a5, a6, a7, a8, a9, a10, a11, a12, a13⟩ := HOpAt.of ((hist.below inv.old hsz).done i' hi)
      have av := (hist.below inv.old hsz).ver i' hi
      have fine := hfine i' hi
      have hm1 : ops (Sf t).2.1 = ops i' := by rw [← hm]
      have hm2 : (Sf t).2.2 = b := by rw [← hm]
      obtain ⟨o, hoo⟩ : ∃ o, o = ops i' := ⟨_, rfl⟩
      rw [← hoo] at fine a0 a1 a2 a3 a6 a7 a11 a12 av hm1
      have HM1 := hide hm1
      have HM2 := hide hm2
      have hg := inv.ge
      have hgl := inv.lt
      have hi' : (i' : Int) < (n : Int) := by omega
      have HWF : Hid (∀ x, (Lit.int .u64 ((hiS ops Sf t x).getD 0)).wf = true) := hiS_wf t (fun s hs => by
        obtain ⟨j, hj, hmj⟩ := (mem_marks ops (Sf s) n).1 (HSM.out.mem s (by omega))
        have : (Sf s).2.1 = j := by rcases hmj with h | ⟨_, h⟩ <;> rw [h]
        rw [this]; exact (hfine j hj).ver)
      clear hmi hmem hm hm1 hm2 hoo
      have hok := hide (isOK_any o ⟨hb + 1 + i', 0, none⟩ 1 ((wr.alloc (.cells #[.int .i64 l, .int .i64 (i' : Int), .bool b] 75)).alloc (.cells (histCells o ⟨hb + 1 + i', 0, none⟩).toArray 57)))
      have HSV : Hid (servedB o = ((decide (effI o.func o.absent = 1) && decide (o.outcome = 2)) && !decide (o.repl = ByteArray.empty))) := by
        unfold Hid servedB; rw [Bool.and_comm (decide (o.outcome = 2))]
      generalize (decide (effI o.func o.absent = 1) && decide (o.outcome = 2)) = okb at hok HSV
      go_wp2_with fail
      refine hok.out.mono ?_
      rintro e w1 ⟨rfl, hb1⟩
      have hz1 : wr.heap.size + 2 ≤ w1.heap.size := by have := hb1.size; simpa using this
      have B1 : Hid (Below wr.heap.size wr w1) := (((Below.refl _ _).alloc (Nat.le_refl _) _).alloc (by simp) _).trans (hb1.mono (by simp; omega))
      have inv1 := hide (inv.kept (B1.out.mono hgl))
      have av1 := (B1.out.cell (p := ⟨hb + 1 + i', 0, none⟩) (by have := inv.old.size; show hb + 1 + i' < _; omega)).trans av
      have b2 : w1.cell? ⟨wr.heap.size, 2, none⟩ = some (.bool b) := by
        rw [hb1.cell (by simp <;> omega)]
        have hx : ((wr.alloc (.cells #[.int .i64 l, .int .i64 (i' : Int), .bool b] 75)).alloc (.cells (histCells o ⟨hb + 1 + i', 0, none⟩).toArray 57)).heap[wr.heap.size]? = some (.cells #[.int .i64 l, .int .i64 (i' : Int), .bool b] 75) := by
          rw [Below.heap_alloc _ _ _ (by simp)]; exact heap_alloc_new wr _
        simp only [World.cell?, hx]; rfl
      obtain ⟨d0, d1, d2, d3, d4, d5, d6, d7, d8, d9, d10, d11, d12, d13⟩ := HOpAt.below (o := o) (pv := ⟨hb + 1 + i', 0, none⟩) (w := (wr.alloc (.cells #[.int .i64 l, .int .i64 (i' : Int), .bool b] 75)).alloc (.cells (histCells o ⟨hb + 1 + i', 0, none⟩).toArray 57)) (b := wr.heap.size + 1) (p := 0)
        (HOpAt.of (fun j v hv => by
          have hx := heap_alloc_new (wr.alloc (.cells #[.int .i64 l, .int .i64 (i' : Int), .bool b] 75)) (.cells (histCells o ⟨hb + 1 + i', 0, none⟩).toArray 57)
          rw [show (wr.alloc (.cells #[.int .i64 l, .int .i64 (i' : Int), .bool b] 75)).heap.size = wr.heap.size + 1 by simp] at hx
          simp only [World.cell?, hx]; simpa using hv)) hb1 (by simp)
      simp only [Nat.zero_add] at d1 d2 d3 d4 d5 d6 d7 d8 d9 d10 d11 d12 d13
      clear hok hb1 inv a0 a1 a2 a3 a4 a5 a6 a7 a8 a9 a10 a11 a12 a13 av q0 q1 q2
      cases okb
      · have R : Hid (RInv w w1 ops S Sf g (t + 1) (fS ops Sf (t + 1))) := by
          have hs : ¬ servedB (ops (Sf t).2.1) = true := by rw [HM1.out, HSV.out]; simp
          rw [Hid, fS_far (fun q => hs q.1)]
          exact inv1.out.more (hiS_far (fun q => hs q.1))
        clear inv1
        go_wp2
        go_roundw
        case rel => exact ⟨t + 1, by omega, by go_num, R.out⟩
        case measure => simp [intOf]; omega
      · by_cases hr : o.repl = ByteArray.empty
        · have hrb := str_eq_nil hr
          have R : Hid (RInv w w1 ops S Sf g (t + 1) (fS ops Sf (t + 1))) := by
            have hs : ¬ servedB (ops (Sf t).2.1) = true := by rw [HM1.out, HSV.out]; simp [hr]
            rw [Hid, fS_far (fun q => hs q.1)]
            exact inv1.out.more (hiS_far (fun q => hs q.1))
          clear inv1 hr
          go_wp2
          go_roundw
          case rel => exact ⟨t + 1, by omega, by go_num, R.out⟩
          case measure => simp [intOf]; omega
        · have hrb := str_ne_nil hr
          have HS : Hid (servedB (ops (Sf t).2.1) = true) := by rw [Hid, HM1.out, HSV.out]; simp [hr]
          clear HSV hr
          go_upto_if 37 with (fail)
          obtain ⟨w2, hw2, B2, k0, k1⟩ : ∃ w2, w2 = w1.alloc (.cells #[.string o.key, .string o.repl] 78) ∧ Below w1.heap.size w1 w2 ∧ w2.cell? ⟨w1.heap.size, 0, none⟩ = some (.string o.key) ∧ w2.cell? ⟨w1.heap.size, 1, none⟩ = some (.string o.repl) := by
            have hx := heap_alloc_new w1 (.cells #[.string o.key, .string o.repl] 78)
            refine ⟨_, rfl, (Below.refl _ _).alloc (Nat.le_refl _) _, ?_, ?_⟩ <;> (simp only [World.cell?, hx]; rfl)
          rw [← hw2]
          have inv2 := inv1.out.kept (B2.mono (by have := inv1.out.lt; omega))
          have r10 := (B2.cell (p := ⟨wr.heap.size + 1, 10, none⟩) (by show wr.heap.size + 1 < _; omega)).trans d10
          have r7 := (B2.cell (p := ⟨wr.heap.size + 1, 7, none⟩) (by show wr.heap.size + 1 < _; omega)).trans d7
          have av2 := (B2.cell (p := ⟨hb + 1 + i', 0, none⟩) (by have := inv1.out.old.size; show hb + 1 + i' < _; omega)).trans av1
          have hx : ok78 (krOf o) := ⟨fine.key, fine.repl⟩
          clear hw2 B2 inv1 av1 d0 d1 d2 d3 d4 d5 d6 d7 d8 d9 d10 d11 d12 d13 b2 B1
          cases b
          · have hlk : ∀ q : Nat, (Instr.lookup 70 (.map (some (w.heap.size + 1))) (.agg #[.string o.key, .string o.repl]) false).run Try.prog (w2.drewN q) = .ok (.int .u64 ((hiS ops Sf t (krOf o)).getD 0)) (w2.drewN q) := fun q =>
              (inv2.mp.kept rfl : MapAs (w2.drewN q) 78 (w.heap.size + 1) t kv78 ok78 (hiS ops Sf t)).look keys78 Try.underlying70 hx
            have HF : Hid (fS ops Sf (t + 1) = if o.ver < (hiS ops Sf t (krOf o)).getD 0 then noteI (fS ops Sf t) o.comp else fS ops Sf t) := by
              rw [Hid, fS_at HS.out HM2.out, HM1.out]
            have HH : Hid (hiS ops Sf (t + 1) = hiS ops Sf t) := hiS_far (fun q => by rw [HM2.out] at q; cases q.2)
            generalize (hiS ops Sf t (krOf o)).getD 0 = hv at hlk HF
            have fc := inv2.fc
            have ff := inv2.ff
            have HI := hide inv2
            clear inv2 hx
            go_upto_region 11 with (fail)
            go_quiet (fail)
            have HI' : Hid (RInv w (w2.drewN nq) ops S Sf g t (fS ops Sf t)) := HI.out.kept (below_drewN (Below.refl _ _) nq)
            clear hlk HI
            by_cases hvv : o.ver < hv
            · have hnote := hide (note_any (w.heap.size + 1 + 1) (fS ops Sf t) o.comp (w2.drewN nq) fc ff)
              have HF' : Hid (fS ops Sf (t + 1) = noteI (fS ops Sf t) o.comp) := by rw [Hid, HF.out, if_pos hvv]
              go_wp2_with fail
              refine hnote.out.mono ?_
              rintro e w3 ⟨rfl, hnt⟩
              have R : Hid (RInv w w3 ops S Sf g (t + 1) (fS ops Sf (t + 1))) := by
                rw [Hid, HF'.out]
                exact (HI'.out.noted hnt).more HH.out
              clear hnote hnt HF HF' HI' HH
              go_wp2
              go_roundw
              case rel => exact ⟨t + 1, by omega, by go_num, R.out⟩
              case measure => simp [intOf]; omega
            · have R : Hid (RInv w (w2.drewN nq) ops S Sf g (t + 1) (fS ops Sf (t + 1))) := by
                rw [Hid, HF.out, if_neg hvv]
                exact HI'.out.more HH.out
              clear HF HI' HH
              go_wp2
              go_roundw
              case rel => exact ⟨t + 1, by omega, by go_num, R.out⟩
              case measure => simp [intOf]; omega
          · have hmp : MapAs w2.drew 78 (w.heap.size + 1) t kv78 ok78 (hiS ops Sf t) := inv2.mp.kept rfl
            have hlk := hmp.look keys78 Try.underlying70 hx
            have hwf := HWF.out (krOf o)
            obtain ⟨w5, hst, hmp5, hturn⟩ := hmp.store keys78 Try.underlying70 (by unfold maxLen; omega) hx (max_wf hwf fine.ver) (f' := hiS ops Sf (t + 1))
              (by have := hiS_hit HS.out HM2.out; rw [HM1.out] at this; exact this) (fun y hy => hiS_other (by rw [HM1.out]; exact hy))
            have hsk : kv78 (krOf o) = .agg #[.string o.key, .string o.repl] := rfl
            rw [hsk] at hlk hst
            have HF : Hid (fS ops Sf (t + 1) = fS ops Sf t) := fS_far (fun q => by rw [HM2.out] at q; cases q.2)
            have R : Hid (RInv w w5 ops S Sf g (t + 1) (fS ops Sf (t + 1))) := by
              rw [Hid, HF.out]
              exact inv2.turned hmp5 hturn
            generalize (hiS ops Sf t (krOf o)).getD 0 = hv at hlk hst
            have HST := hide hst
            clear hst hmp5 hturn hsk hwf hmp hx inv2 HF HS HM1 HM2 HWF
            go_upto_region 10 with (fail)
            refine region_tail 10 (by kernel_rfl) (by kernel_rfl) ?_
            simp only [List.take_succ_cons, List.take_zero, List.drop_succ_cons, List.drop_zero]
            repeat still_step
            refine wpStill_nil ?_
            refine wpList_mapUpdate_run (by rfl) _ _ _ 70 (by rfl) (by rfl) (by rfl) ?hv HST.out ?_
            case hv => simp [Act.eval]
            go_wp2
            go_roundw
            case rel => exact ⟨t + 1, by omega, by go_num, R.out⟩
            case measure => simp [intOf]; omega
    · have : t = S.length := by omega
      subst this
      have fc := inv.fc
      have old := inv.old
      clear hist hfine inv
      go_wp2
      go_ret
      exact ⟨ret_int HEQ.out, old⟩
end Go.Proofs.Qxb6604187a
