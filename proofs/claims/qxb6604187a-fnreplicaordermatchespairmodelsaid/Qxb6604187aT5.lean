import Derived.Test.Qxb6604187aM1
import Derived.Test.Qxb6604187aL1
import Derived.Deep.DeepCutAuto
namespace Go.Proofs.Qxb6604187a
open Go.RowKit Go.Maps
attribute [local go_sem] World.cell?_alloc_some cell?_past

/-- The history lies in block hb, the versions behind it. -/
structure HistAt (w : World) (hb : Nat) (ops : Nat → OpR) (n : Nat) : Prop where
  done : ∀ i, i < n → w.rangeAt hb (i * 14) (histCells (ops i) ⟨hb + 1 + i, 0, none⟩)
  ver : ∀ i, i < n → w.cell? ⟨hb + 1 + i, 0, none⟩ = some (.int .u64 (ops i).ver)

theorem HistAt.below {w w' : World} {hb n : Nat} {ops : Nat → OpR} (h : HistAt w hb ops n) (hB : Below w.heap.size w w') (hsz : hb + 1 + n ≤ w.heap.size) : HistAt w' hb ops n :=
  ⟨fun i hi j v hv => (hB.cell (p := ⟨hb, i * 14 + j, none⟩) (by show hb < _; omega)).trans (h.done i hi j v hv), fun i hi => (hB.cell (p := ⟨hb + 1 + i, 0, none⟩) (by show hb + 1 + i < _; omega)).trans (h.ver i hi)⟩

/-- An operation of the history lies whole in block b from offset p on. -/
structure HOpAt (w : World) (b p : Nat) (o : OpR) (pv : Addr) : Prop where
  c0 : w.cell? ⟨b, p, none⟩ = some (.int .i64 o.proc)
  c1 : w.cell? ⟨b, p + 1, none⟩ = some (.int .i64 o.func)
  c2 : w.cell? ⟨b, p + 2, none⟩ = some (.string o.key)
  c3 : w.cell? ⟨b, p + 3, none⟩ = some (.int .i64 o.outcome)
  c4 : w.cell? ⟨b, p + 4, none⟩ = some (.string ByteArray.empty)
  c5 : w.cell? ⟨b, p + 5, none⟩ = some (.string ByteArray.empty)
  c6 : w.cell? ⟨b, p + 6, none⟩ = some (.int .i64 o.inv)
  c7 : w.cell? ⟨b, p + 7, none⟩ = some (.int .i64 o.comp)
  c8 : w.cell? ⟨b, p + 8, none⟩ = some (.pointer Option.none)
  c9 : w.cell? ⟨b, p + 9, none⟩ = some (.pointer Option.none)
  c10 : w.cell? ⟨b, p + 10, none⟩ = some (.pointer (some pv))
  c11 : w.cell? ⟨b, p + 11, none⟩ = some (.bool o.absent)
  c12 : w.cell? ⟨b, p + 12, none⟩ = some (.string o.repl)
  c13 : w.cell? ⟨b, p + 13, none⟩ = some (.bool false)

theorem HOpAt.of {w : World} {b p : Nat} {o : OpR} {pv : Addr} (h : w.rangeAt b p (histCells o pv)) : HOpAt w b p o pv :=
  ⟨h 0 _ rfl, h 1 _ rfl, h 2 _ rfl, h 3 _ rfl, h 4 _ rfl, h 5 _ rfl, h 6 _ rfl, h 7 _ rfl, h 8 _ rfl, h 9 _ rfl, h 10 _ rfl, h 11 _ rfl, h 12 _ rfl, h 13 _ rfl⟩

/-- What the loop of 'first' keeps. -/
structure FInv (w wr : World) (after thn : Int) (same higher : Bool) (ops : Nat → OpR) (k : Nat) (f : Int) : Prop where
  old : Below w.heap.size w wr
  s0 : wr.cell? ⟨w.heap.size, 0, none⟩ = some (.int .i64 after)
  s1 : wr.cell? ⟨w.heap.size, 1, none⟩ = some (.int .i64 thn)
  s2 : wr.cell? ⟨w.heap.size, 2, none⟩ = some (.bool same)
  s3 : wr.cell? ⟨w.heap.size, 3, none⟩ = some (.bool higher)
  mp : MapAs wr 82 (w.heap.size + 1 + 1) k kv82 ok82 (hiTo after same ops k)
  fc : wr.cell? ⟨w.heap.size + 1 + 1 + 1, 0, none⟩ = some (.int .i64 f)
  ff : wr.frozen? ⟨w.heap.size + 1 + 1 + 1, 0, none⟩ = false
  size : w.heap.size + 4 ≤ wr.heap.size

/-- Where all of the first four blocks stand as they stood, so does it. -/
theorem FInv.kept {w wr wr' : World} {after thn : Int} {same higher : Bool} {ops : Nat → OpR} {k : Nat} {f : Int} (h : FInv w wr after thn same higher ops k f) (hB : Below (w.heap.size + 4) wr wr') : FInv w wr' after thn same higher ops k f :=
  ⟨h.old.trans (hB.mono (by omega)), (hB.cell (by simp)).trans h.s0, (hB.cell (by simp)).trans h.s1, (hB.cell (by simp)).trans h.s2, (hB.cell (by simp)).trans h.s3,
    h.mp.kept (hB.block _ (by omega)), (hB.cell (by simp)).trans h.fc, (hB.frozen (by simp)).trans h.ff, Nat.le_trans h.size hB.size⟩

/-- A round that stores nothing. -/
theorem FInv.more {w wr : World} {after thn : Int} {same higher : Bool} {ops : Nat → OpR} {k : Nat} {f : Int} (h : FInv w wr after thn same higher ops k f) (he : hiTo after same ops (k + 1) = hiTo after same ops k) : FInv w wr after thn same higher ops (k + 1) f :=
  ⟨h.old, h.s0, h.s1, h.s2, h.s3, by rw [he]; exact h.mp.mono, h.fc, h.ff, h.size⟩
/-- A round that stores into the map. -/
theorem FInv.turned {w wr w' : World} {after thn : Int} {same higher : Bool} {ops : Nat → OpR} {k : Nat} {f : Int} (h : FInv w wr after thn same higher ops k f) (hm : MapAs w' 82 (w.heap.size + 1 + 1) (k + 1) kv82 ok82 (hiTo after same ops (k + 1)))
    (ht : wr.drew.mapTurned w' (w.heap.size + 1 + 1)) : FInv w w' after thn same higher ops (k + 1) f := by
  have hg := ht.grown
  have hz : wr.drew.heap.size = wr.heap.size := rfl
  have hb : ∀ b, b < wr.heap.size → b ≠ w.heap.size + 1 + 1 → w'.heap[b]? = wr.heap[b]? := fun b hb hne => hg.block b hb (by simp; omega)
  have hi := h.size
  have hc : ∀ b q, b < wr.heap.size → b ≠ w.heap.size + 1 + 1 → w'.cell? ⟨b, q, Option.none⟩ = wr.cell? ⟨b, q, Option.none⟩ := fun b q h1 h2 => World.cell?_of_block (hb b h1 h2)
  exact ⟨h.old.trans ⟨hg.os, hg.tape, hg.output, hg.size, fun b hlt => hb b (by omega) (by omega)⟩, (hc _ _ (by omega) (by omega)).trans h.s0, (hc _ _ (by omega) (by omega)).trans h.s1, (hc _ _ (by omega) (by omega)).trans h.s2, (hc _ _ (by omega) (by omega)).trans h.s3,
    hm, (hc _ _ (by omega) (by omega)).trans h.fc, (ht.frozen _).trans h.ff, Nat.le_trans h.size hg.size⟩

/-- A store into a map, by what its run gives. -/
theorem wpList_mapUpdate_run {P : Program} {w w' : World} {ops : Array Oper} {rest : List Oper} {o : Oper} {a : Act} {Q : Exit → Act → World → Prop} (hg : o.guard = Option.none) (m x v : Operand) (t : TypeId) (hop : o.op = Op.mapUpdate t m x v)
    {mv key val : Value} (hm : a.eval m = mv) (hx : a.eval x = key) (hv : a.eval v = val) (hrun : (Instr.mapUpdate t mv key val).run P w = .ok () w') (h : wpList P ops Q rest (a.put o.dst undef) w') : wpList P ops Q (o :: rest) a w := by
  refine wpList_plain hg fun K' hK' => ?_
  unfold Oper.wp
  simp [execOp, hop, hm, hx, hv, hrun, Result.andThen]
  exact hK' _ _ h

theorem max_if (a b : Int) : (if a < b then b else a) = max a b := by
  rcases Int.lt_or_le a b with h | h
  · rw [if_pos h, Int.max_eq_right (Int.le_of_lt h)]
  · rw [if_neg (by omega), Int.max_eq_left h]

theorem FInv.start (w : World) (after thn : Int) (same higher : Bool) (vs sec : Int) (ops : Nat → OpR) :
    FInv w ((((w.alloc (Obj.cells #[Value.int IntKind.i64 after, Value.int IntKind.i64 thn, Value.bool same, Value.bool higher] 60)).alloc (Obj.cells #[Value.int IntKind.u64 vs, Value.int IntKind.u64 sec] 32)).alloc
      (Obj.map #[] 0)).alloc (Obj.cells #[Value.int IntKind.i64 0] 71)) after thn same higher ops 0 0 := by
  have z1 : ∀ (x : World) (o : Obj), (x.alloc o).heap.size = x.heap.size + 1 := fun x o => by simp
  generalize hA : w.alloc (Obj.cells #[Value.int IntKind.i64 after, Value.int IntKind.i64 thn, Value.bool same, Value.bool higher] 60) = A
  generalize hB : A.alloc (Obj.cells #[Value.int IntKind.u64 vs, Value.int IntKind.u64 sec] 32) = B
  generalize hC : B.alloc (Obj.map #[] 0) = C
  have sA : A.heap.size = w.heap.size + 1 := by rw [← hA, z1]
  have sB : B.heap.size = w.heap.size + 1 + 1 := by rw [← hB, z1, sA]
  have sC : C.heap.size = w.heap.size + 1 + 1 + 1 := by rw [← hC, z1, sB]
  have bA : Below w.heap.size w A := by rw [← hA]; exact (Below.refl _ _).alloc (Nat.le_refl _) _
  have bB : Below A.heap.size A B := by rw [← hB]; exact (Below.refl _ _).alloc (Nat.le_refl _) _
  have bC : Below B.heap.size B C := by rw [← hC]; exact (Below.refl _ _).alloc (Nat.le_refl _) _
  have bD : Below C.heap.size C (C.alloc (Obj.cells #[Value.int IntKind.i64 0] 71)) := (Below.refl _ _).alloc (Nat.le_refl _) _
  have bAD : Below A.heap.size A (C.alloc (Obj.cells #[Value.int IntKind.i64 0] 71)) := (bB.trans (bC.mono (by omega))).trans (bD.mono (by omega))
  have hsA : A.heap[w.heap.size]? = some (Obj.cells #[Value.int IntKind.i64 after, Value.int IntKind.i64 thn, Value.bool same, Value.bool higher] 60) := by rw [← hA]; exact heap_alloc_new w _
  have cA : ∀ q v, #[Value.int IntKind.i64 after, Value.int IntKind.i64 thn, Value.bool same, Value.bool higher][q]? = some v → (C.alloc (Obj.cells #[Value.int IntKind.i64 0] 71)).cell? ⟨w.heap.size, q, Option.none⟩ = some v := fun q v hv => by
    rw [bAD.cell (by show w.heap.size < _; omega)]
    simp only [World.cell?, hsA]
    exact hv
  have hnew := heap_alloc_new C (Obj.cells #[Value.int IntKind.i64 0] 71)
  rw [sC] at hnew
  refine ⟨(bA.trans (bAD.mono (by omega))), cA 0 _ rfl, cA 1 _ rfl, cA 2 _ rfl, cA 3 _ rfl, ?_, ?_, ?_, ?_⟩
  · have hm := MapAs.made (w := B) 82 kv82 ok82
    rw [sB, hC] at hm
    exact (hm.kept (bD.block _ (by omega)) : MapAs _ 82 (w.heap.size + 1 + 1) 0 kv82 ok82 fun _ => Option.none)
  · simp only [World.cell?, hnew]; rfl
  · simp only [World.frozen?, hnew]; simp
  · rw [z1, sC]; omega

/-- Behind the two new blocks of a round: the operation, the scope. -/
structure MidW (wr wc : World) (o : OpR) (pv : Addr) (sk : ByteArray) : Prop where
  bel : Below wr.heap.size wr wc
  op : HOpAt wc wr.heap.size 0 o pv
  k0 : wc.cell? ⟨wr.heap.size + 1, 0, none⟩ = some (.int .i64 o.proc)
  k1 : wc.cell? ⟨wr.heap.size + 1, 1, none⟩ = some (.string sk)
  size : wr.heap.size + 2 ≤ wc.heap.size

theorem MidW.mk' {wr wc : World} {o : OpR} {pv : Addr} {sk : ByteArray} (bel : Below wr.heap.size wr wc) (h1 : wc.heap[wr.heap.size]? = some (.cells (histCells o pv).toArray 57)) (h2 : wc.heap[wr.heap.size + 1]? = some (.cells #[.int .i64 o.proc, .string sk] 82)) :
    MidW wr wc o pv sk := by
  refine ⟨bel, HOpAt.of (fun j v hv => ?_), ?_, ?_, ?_⟩
  · simp only [World.cell?, h1]
    simpa using hv
  · simp only [World.cell?, h2]; rfl
  · simp only [World.cell?, h2]; rfl
  · have := (Array.getElem?_eq_some_iff.1 h2).1; omega

theorem MidW.no (wr : World) (o : OpR) (pv : Addr) : MidW wr ((wr.alloc (.cells (histCells o pv).toArray 57)).alloc (.cells #[.int .i64 o.proc, .string ByteArray.empty] 82)) o pv ByteArray.empty :=
  MidW.mk' (((Below.refl _ _).alloc (Nat.le_refl _) _).alloc (by simp) _) (by rw [Below.heap_alloc _ _ _ (by simp)]; exact heap_alloc_new wr _) (by have := heap_alloc_new (wr.alloc (.cells (histCells o pv).toArray 57)) (.cells #[.int .i64 o.proc, .string ByteArray.empty] 82); simpa using this)
theorem MidW.yes (wr : World) (o : OpR) (pv : Addr) : MidW wr ((wr.alloc (.cells (histCells o pv).toArray 57)).alloc (.cells #[.int .i64 o.proc, .string o.key] 82)) o pv o.key :=
  MidW.mk' (((Below.refl _ _).alloc (Nat.le_refl _) _).alloc (by simp) _) (by rw [Below.heap_alloc _ _ _ (by simp)]; exact heap_alloc_new wr _) (by have := heap_alloc_new (wr.alloc (.cells (histCells o pv).toArray 57)) (.cells #[.int .i64 o.proc, .string o.key] 82); simpa using this)

theorem HOpAt.below {w w' : World} {b p B : Nat} {o : OpR} {pv : Addr} (h : HOpAt w b p o pv) (hb : Below B w w') (hB : b < B) : HOpAt w' b p o pv :=
  have hs : ∀ q, w'.cell? ⟨b, q, Option.none⟩ = w.cell? ⟨b, q, Option.none⟩ := fun _ => hb.cell hB
  ⟨(hs _).trans h.c0, (hs _).trans h.c1, (hs _).trans h.c2, (hs _).trans h.c3, (hs _).trans h.c4, (hs _).trans h.c5, (hs _).trans h.c6, (hs _).trans h.c7, (hs _).trans h.c8, (hs _).trans h.c9, (hs _).trans h.c10, (hs _).trans h.c11, (hs _).trans h.c12, (hs _).trans h.c13⟩
theorem HOpAt.noted {w w' : World} {b p q : Nat} {o : OpR} {pv : Addr} {f : Int} (h : HOpAt w b p o pv) (hn : Noted w w' q f) (hne : b ≠ q) : HOpAt w' b p o pv :=
  have hs : ∀ x, w'.cell? ⟨b, x, Option.none⟩ = w.cell? ⟨b, x, Option.none⟩ := fun _ => World.cell?_of_block (hn.block b hne)
  ⟨(hs _).trans h.c0, (hs _).trans h.c1, (hs _).trans h.c2, (hs _).trans h.c3, (hs _).trans h.c4, (hs _).trans h.c5, (hs _).trans h.c6, (hs _).trans h.c7, (hs _).trans h.c8, (hs _).trans h.c9, (hs _).trans h.c10, (hs _).trans h.c11, (hs _).trans h.c12, (hs _).trans h.c13⟩

/-- In the midst of a round: the invariant, the operation's block, the scope's block. -/
structure Mid2 (w wr wc : World) (after thn : Int) (same higher : Bool) (ops : Nat → OpR) (k : Nat) (o : OpR) (pv : Addr) (sk : ByteArray) (f : Int) : Prop where
  inv : FInv w wc after thn same higher ops k f
  op : HOpAt wc wr.heap.size 0 o pv
  k0 : wc.cell? ⟨wr.heap.size + 1, 0, none⟩ = some (.int .i64 o.proc)
  k1 : wc.cell? ⟨wr.heap.size + 1, 1, none⟩ = some (.string sk)
  size : wr.heap.size + 2 ≤ wc.heap.size

theorem Mid2.kept {w wr wc w' : World} {after thn : Int} {same higher : Bool} {ops : Nat → OpR} {k : Nat} {o : OpR} {pv : Addr} {sk : ByteArray} {f : Int} (h : Mid2 w wr wc after thn same higher ops k o pv sk f) (hB : Below wc.heap.size wc w') (iz : w.heap.size + 4 ≤ wr.heap.size) : Mid2 w wr w' after thn same higher ops k o pv sk f :=
  have hz := h.size
  ⟨h.inv.kept (hB.mono (by omega)), h.op.below hB (by omega), (hB.cell (by show wr.heap.size + 1 < _; omega)).trans h.k0, (hB.cell (by show wr.heap.size + 1 < _; omega)).trans h.k1, Nat.le_trans h.size hB.size⟩

theorem Mid2.note {w wr wc w' : World} {after thn : Int} {same higher : Bool} {ops : Nat → OpR} {k : Nat} {o : OpR} {pv : Addr} {sk : ByteArray} {f g : Int} (h : Mid2 w wr wc after thn same higher ops k o pv sk f) (iz : w.heap.size + 4 ≤ wr.heap.size)
    (hn : Noted wc w' (w.heap.size + 1 + 1 + 1) g) : Mid2 w wr w' after thn same higher ops k o pv sk g := by
  have hc : ∀ b q, b ≠ w.heap.size + 1 + 1 + 1 → w'.cell? ⟨b, q, Option.none⟩ = wc.cell? ⟨b, q, Option.none⟩ := fun b q hb => World.cell?_of_block (hn.block b hb)
  refine ⟨⟨?_, ?_, ?_, ?_, ?_, ?_, ?_, ?_, ?_⟩, h.op.noted hn (by omega), (hc _ _ (by omega)).trans h.k0, (hc _ _ (by omega)).trans h.k1, ?_⟩
  · exact h.inv.old.trans ⟨hn.os, hn.tape, hn.output, Nat.le_of_eq hn.size.symm, fun b hb => hn.block b (by omega)⟩
  · exact (hc _ _ (by omega)).trans h.inv.s0
  · exact (hc _ _ (by omega)).trans h.inv.s1
  · exact (hc _ _ (by omega)).trans h.inv.s2
  · exact (hc _ _ (by omega)).trans h.inv.s3
  · exact h.inv.mp.kept (hn.block _ (by omega))
  · exact hn.cell
  · exact (hn.frozen 0).trans h.inv.ff
  · rw [hn.size]; exact h.inv.size
  · rw [hn.size]; exact h.size

set_option maxRecDepth 100000 in
set_option maxHeartbeats 1000000 in
theorem first_any (after thn : Int) (same higher : Bool) (hb n : Nat) (vs sec : Int) (ops : Nat → OpR) (w : World) (hn : n ≤ 4096) (hist : HistAt w hb ops n) (hfine : ∀ i, i < n → OpFine (ops i)) (hsz : hb + 1 + n ≤ w.heap.size) :
    Calls Try.prog 24 #[.agg #[.int .i64 after, .int .i64 thn, .bool same, .bool higher], .slice (some ⟨hb, 0, none⟩) n n, .agg #[.int .u64 vs, .int .u64 sec]] w fun e w' => e = .returned (.int .i64 (fTo after thn same higher ops n)) ∧ Below w.heap.size w w' := by
  have hmm := @run_makeMap Try.prog
  go_enter Try.func24, Try.ntmps24
  go_wp2
  go_loopw [18] (fun i wr => ∃ k : Nat, k ≤ n ∧ i = .int .i64 k ∧ FInv w wr after thn same higher ops k (fTo after thn same higher ops k)) (fun i _ => n - (intOf i).toNat)
  case atStart => exact ⟨0, Nat.zero_le _, rfl, FInv.start w after thn same higher vs sec ops⟩
  case round =>
    clear hmm
    obtain ⟨k, hk, rfl, inv⟩ := hrel
    by_cases hlt : k < n
    · have hist' := hist.below inv.old hsz
      obtain ⟨a0, a1, a2, a3, a4, a5, a6, a7, a8, a9, a10, a11, a12, a13⟩ := HOpAt.of (hist'.done k hlt)
      have av := hist'.ver k hlt
      have fine := hfine k hlt
      have hfine' : ∀ i, i < k → OpFine (ops i) := fun i hi => hfine i (by omega)
      by_cases ho : (ops k).outcome = 2
      · obtain ⟨o, hoo⟩ : ∃ o, o = ops k := ⟨_, rfl⟩
        rw [← hoo] at ho fine a0 a1 a2 a3 a6 a7 a11 a12 av
        have HO := hide hoo
        have hob : (o.outcome != 2) = false := by simp [ho]
        have s2 := inv.s2
        have iz := inv.size
        clear hoo ho hist hfine hist'
        go_upto_if 29 with (fail)
        go_cut [] (fun wc => MidW wr wc o ⟨hb + 1 + k, 0, none⟩ (scopeOf same o).2)
        case first =>
          clear a0 a1 a2 a3 a4 a5 a6 a7 a8 a9 a10 a11 a12 a13 av s2
          cases same
          · go_wp2
            go_meet
            case rel => exact MidW.no _ _ _
          · go_wp2
            go_meet
            case rel => exact MidW.yes _ _ _
        case rest =>
          obtain ⟨wd, rfl⟩ : ∃ wd : World, wd = wc := ⟨_, rfl⟩
          have av' : wd.cell? ⟨hb + 1 + k, 0, none⟩ = some (.int .u64 o.ver) := (hcut.bel.cell (p := ⟨hb + 1 + k, 0, none⟩) (by show hb + 1 + k < _; omega)).trans av
          have inv' := inv.kept (hcut.bel.mono iz)
          clear a0 a1 a2 a3 a4 a5 a6 a7 a8 a9 a10 a11 a12 a13 av s2 inv
          obtain ⟨bel, ⟨b0, b1, b2, b3, b4, b5, b6, b7, b8, b9, b10, b11, b12, b13⟩, k0, k1, zz⟩ := hcut
          simp only [Nat.zero_add] at b1 b2 b3 b4 b5 b6 b7 b8 b9 b10 b11 b12 b13
          have hlk := inv'.mp.look_ok keys82 Try.underlying80 (x := scopeOf same o) ⟨fine.proc, by unfold scopeOf; split; exact fine.key; exact Nat.zero_le _⟩
          unfold kv82 at hlk
          generalize hkk : (scopeOf same o).2 = sk at *
          rw [show (scopeOf same o).1 = o.proc from rfl] at hlk
          generalize hhi : hiTo after same ops k (scopeOf same o) = hi at *
          have HKK := hide hkk
          have HHI := hide hhi
          clear hkk hhi
          go_upto_region 12 with (fail)
          have heff : Hid (∀ p : Past wd, Calls Try.prog 31 #[.agg (histCells o ⟨hb + 1 + k, 0, none⟩).toArray] (past wd p) fun e w'' => e = .returned (.int .i64 (effI o.func o.absent)) ∧ ∃ q, w'' = past wd q) :=
            fun p => Calls.past_of (effect_any o _ _)
          have s1' := inv'.s1
          have s3' := inv'.s3
          obtain ⟨E, hE⟩ : ∃ E, E = effI o.func o.absent := ⟨_, rfl⟩
          rw [← hE] at heff
          obtain ⟨bb, hbb⟩ : ∃ bb, bb = brkE E thn higher o.ver hi := ⟨_, rfl⟩
          have HE := hide hE
          have HBB := hide hbb
          clear hE hbb
          go_cut [64, 13, 14] (fun t _ _ w2 => t = .bool bb ∧ Below wd.heap.size wd w2)
          case first =>
            clear hlk k0 k1 inv' av' HE
            have hne := past_some wd
            cases hi with
            | none =>
              simp only [Option.isSome_none, Option.getD_none]
              obtain rfl : bb = false := HBB
              refine region_past (by kernel_rfl) (by kernel_rfl) ?_
              repeat (go_big_quiet_step (fail))
              refine wpQuiet_nil ?_
              intro _ hw'
              obtain ⟨p, hw''⟩ := hw'
              subst hw''
              go_wp2
              go_meet
              case rel => exact ⟨rfl, past_below _ _⟩
            | some e =>
              simp only [Option.isSome_some, Option.getD_some]
              by_cases h1 : E = thn
              · subst h1
                by_cases h2 : o.ver < e
                · obtain rfl : bb = true := by rw [HBB.out]; simp [brkE, h2]
                  clear HBB
                  refine region_past (by kernel_rfl) (by kernel_rfl) ?_
                  repeat (go_big_quiet_step (exact heff.out _))
                  refine wpQuiet_nil ?_
                  intro _ hw'
                  obtain ⟨p, hw''⟩ := hw'
                  subst hw''
                  go_wp2
                  go_meet
                  case rel => exact ⟨rfl, past_below _ _⟩
                · cases higher
                  · obtain rfl : bb = false := by rw [HBB.out]; simp [brkE, h2]
                    clear HBB
                    refine region_past (by kernel_rfl) (by kernel_rfl) ?_
                    repeat (go_big_quiet_step (exact heff.out _))
                    refine wpQuiet_nil ?_
                    intro _ hw'
                    obtain ⟨p, hw''⟩ := hw'
                    subst hw''
                    go_wp2
                    go_meet
                    case rel => exact ⟨rfl, past_below _ _⟩
                  · obtain rfl : bb = (o.ver == e) := by rw [HBB.out]; simp [brkE, h2]; rfl
                    clear HBB
                    refine region_past (by kernel_rfl) (by kernel_rfl) ?_
                    repeat (go_big_quiet_step (exact heff.out _))
                    refine wpQuiet_nil ?_
                    intro _ hw'
                    obtain ⟨p, hw''⟩ := hw'
                    subst hw''
                    go_wp2
                    go_meet
                    case rel => exact ⟨rfl, past_below _ _⟩
              · obtain rfl : bb = false := by rw [HBB.out]; simp [brkE, h1]
                have h1' : (E == thn) = false := by simp [h1]
                clear HBB h1
                refine region_past (by kernel_rfl) (by kernel_rfl) ?_
                repeat (go_big_quiet_step (exact heff.out _))
                refine wpQuiet_nil ?_
                intro _ hw'
                obtain ⟨p, hw''⟩ := hw'
                subst hw''
                go_wp2
                go_meet
                case rel => exact ⟨rfl, past_below _ _⟩
          case rest =>
            obtain ⟨we, rfl⟩ : ∃ we : World, we = wc := ⟨_, rfl⟩
            obtain ⟨rfl, bel2⟩ := hcut
            have inv2 := inv'.kept (bel2.mono (Nat.le_trans inv'.size (Nat.le_refl _)))
            have mid : Mid2 w wr we after thn same higher ops k o ⟨hb + 1 + k, 0, none⟩ sk (fTo after thn same higher ops k) :=
              ⟨inv2, HOpAt.below ⟨b0, b1, b2, b3, b4, b5, b6, b7, b8, b9, b10, b11, b12, b13⟩ bel2 (by omega), (bel2.cell (by show wr.heap.size + 1 < _; omega)).trans k0, (bel2.cell (by show wr.heap.size + 1 < _; omega)).trans k1, by have := bel2.size; omega⟩
            have b7' := mid.op.c7
            have hfc := mid.inv.fc
            have hff := mid.inv.ff
            simp only [Nat.zero_add] at b7'
            clear hlk k0 k1 inv' inv2 av' b0 b1 b2 b3 b4 b5 b6 b7 b8 b9 b10 b11 b12 b13 s1' s3' heff bel bel2
            go_upto_if 64 with (fail)
            go_cut [] (fun w2 => Mid2 w wr w2 after thn same higher ops k o ⟨hb + 1 + k, 0, none⟩ sk (if bb = true then noteI (fTo after thn same higher ops k) o.comp else fTo after thn same higher ops k))
            case first =>
              cases bb
              · go_wp2
                go_meet
                case rel => exact mid
              · have hnote := note_any (w.heap.size + 1 + 1 + 1) (fTo after thn same higher ops k) o.comp we hfc hff
                have HN := hide hnote
                clear hnote
                go_wp2_with (go_at_call 30; refine HN.out.mono ?_; rintro e w' ⟨rfl, hnt⟩)
                go_wp2
                go_meet
                case rel => exact mid.note iz hnt
            case rest =>
              obtain ⟨wf, rfl⟩ : ∃ wf : World, wf = wc := ⟨_, rfl⟩
              clear mid b7' hfc hff
              have mid := hcut
              clear hcut
              have hF : Hid ((if bb = true then noteI (fTo after thn same higher ops k) o.comp else fTo after thn same higher ops k) = fTo after thn same higher ops (k + 1)) := by
                have e1 := HO.out
                have e2 : o.outcome = 2 := by simpa using hob
                subst e1
                exact fTo_ok e2 (by rw [HBB.out, HE.out, HHI.out]; rfl)
              obtain ⟨b0, b1, b2, b3, b4, b5, b6, b7, b8, b9, b10, b11, b12, b13⟩ := mid.op
              simp only [Nat.zero_add] at b1 b2 b3 b4 b5 b6 b7 b8 b9 b10 b11 b12 b13
              have s0' := mid.inv.s0
              have hne := past_some wf
              have heff : Hid (∀ p : Past wf, Calls Try.prog 31 #[.agg (histCells o ⟨hb + 1 + k, 0, none⟩).toArray] (past wf p) fun e w'' => e = .returned (.int .i64 (effI o.func o.absent)) ∧ ∃ q, w'' = past wf q) :=
                fun p => Calls.past_of (effect_any o _ _)
              have HM := hide mid
              clear mid
              rw [← HE.out] at heff
              go_upto_region 14 with (fail)
              refine region_past (by kernel_rfl) (by kernel_rfl) ?_
              repeat (go_big_quiet_step (exact heff.out _))
              refine wpQuiet_nil ?_
              intro _ hw'
              obtain ⟨p, hw''⟩ := hw'
              have mid' := HM.out.kept (past_below wf p) iz
              rw [← hw''] at mid'
              clear hw'' b0 b1 b2 b3 b4 b5 b6 b7 b8 b9 b10 b11 b12 b13 s0' heff HM hne
              rename_i wg
              have hk0 := mid'.k0
              have hk1 := mid'.k1
              have ho2 : Hid (o.outcome = 2) := by simpa [Hid] using hob
              by_cases hea : E = after
              · subst hea
                have hx : ok82 (scopeOf same o) := ⟨fine.proc, by unfold scopeOf; split; exact fine.key; exact Nat.zero_le _⟩
                have hmp : MapAs wg.drew 82 (w.heap.size + 1 + 1) k kv82 ok82 (hiTo E same ops k) := mid'.inv.mp.kept rfl
                have hlk := hmp.look keys82 Try.underlying80 hx
                have hwf : (Lit.int .u64 (hi.getD 0)).wf = true := by rw [← HHI.out]; exact hiTo_wf k (fun i hi => (hfine' i hi).ver) _
                obtain ⟨w5, hst, hmp5, hturn⟩ := hmp.store keys82 Try.underlying80 (by unfold maxLen; omega) hx (max_wf hwf fine.ver) (f' := hiTo E same ops (k + 1))
                  (by rw [← HHI.out]; have e1 := HO.out; subst e1; exact hiTo_hit ho2.out HE.out.symm) (fun y hy => by have e1 := HO.out; subst e1; exact hiTo_other hy)
                have hsk : kv82 (scopeOf same o) = .agg #[.int .i64 o.proc, .string sk] := by rw [← HKK.out]; rfl
                rw [hsk] at hlk hst
                rw [HHI.out] at hlk
                have R := hF.out ▸ mid'.inv.turned hmp5 hturn
                have HR := hide R
                have HST := hide hst
                clear R hst hmp5 hturn hsk hwf hmp hx mid' hF HO HE HBB HKK HHI ho2
                go_wp2
                refine region_tail 7 (by kernel_rfl) (by kernel_rfl) ?_
                simp only [List.take_succ_cons, List.take_zero, List.drop_succ_cons, List.drop_zero]
                repeat still_step
                refine wpStill_nil ?_
                refine wpList_mapUpdate_run (by rfl) _ _ _ 80 (by rfl) (by rfl) (by rfl) ?hv HST.out ?_
                case hv => simp [Act.eval]; exact max_if _ _
                go_wp2
                go_roundw
                case rel => exact ⟨k + 1, by omega, by go_num, HR.out⟩
                case measure => simp [intOf]; omega
              · have hea' : (E == after) = false := by simp [hea]
                have hh : hiTo after same ops (k + 1) = hiTo after same ops k := hiTo_far (fun e => hea (by have e1 := HO.out; subst e1; exact HE.out.trans e.2))
                have R := hF.out ▸ mid'.inv.more hh
                have HR := hide R
                clear R hh mid' hF HO HE HBB HKK HHI ho2
                go_wp2
                go_roundw
                case rel => exact ⟨k + 1, by omega, by go_num, HR.out⟩
                case measure => simp [intOf]; omega
      · have e1 : hiTo after same ops (k + 1) = hiTo after same ops k := hiTo_far (fun e => ho e.1)
        have R := ((fTo_far ho).symm ▸ inv.more e1 : FInv w wr after thn same higher ops (k + 1) (fTo after thn same higher ops (k + 1))).kept (((Below.refl _ _).alloc (by exact inv.size) (.cells (histCells (ops k) ⟨hb + 1 + k, 0, none⟩).toArray 57)))
        generalize ops k = o at *
        have HR := hide R
        have iz := inv.size
        have hob : (o.outcome != 2) = true := by simp [ho]
        clear R e1 inv ho hist hfine hist' hfine'
        go_wp2
        go_roundw
        case rel => exact ⟨k + 1, by omega, by go_num, HR.out⟩
        case measure => simp [intOf]; omega
    · have : k = n := by omega
      subst this
      have fc := inv.fc
      have old := inv.old
      clear hist hfine inv
      go_wp2
      go_ret
      exact ⟨rfl, old⟩
end Go.Proofs.Qxb6604187a
