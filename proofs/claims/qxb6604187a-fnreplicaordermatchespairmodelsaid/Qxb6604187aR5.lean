import Derived.Test.Qxb6604187aR4
import Derived.Lib.OwnBridge
namespace Go.Proofs.Qxb6604187a
open Go.RowKit Go.Sort Go.Shelf Go.Lib
attribute [local go_sem] World.cell?_alloc_some

theorem Try.info75 : (Try.prog.info? 75).map (fun i => (i.zero, i.size, i.bytes)) = some (some (.agg #[.int .i64 0, .int .i64 0, .bool false]), 3, 24) := by kernel_rfl

/-- The sorted marks lie in block g. -/
structure MarksAt (w w' : World) (ops : Nat → OpR) (n g : Nat) (S : List Mk) : Prop where
  perm : S.Perm (marksTo ops n)
  sorted : ∀ s t, s < t → ∀ (ht : t < S.length) (hs : s < S.length), S[s].1 ≤ S[t].1
  cell : ∀ t (ht : t < S.length) (c : Nat), c < 3 → w'.cell? ⟨g, t * 3 + c, none⟩ = (encM S[t])[c]?
  bel : Below w.heap.size w w'
  ge : w.heap.size ≤ g
  lt : g < w'.heap.size
def MarksSaid (w w' : World) (ops : Nat → OpR) (n : Nat) (e : Ending) : Prop := ∃ (g c : Nat) (S : List Mk), e = .returned (.slice (some ⟨g, 0, none⟩) S.length c) ∧ MarksAt w w' ops n g S

theorem flat_len : ∀ l : List Mk, (l.flatMap encM).length = l.length * 3
  | [] => rfl
  | x :: l => by
    rw [List.flatMap_cons, List.length_append, flat_len l]
    show 3 + _ = _
    simp; omega

theorem flat_get : ∀ (l : List Mk) (t c : Nat), c < 3 → (ht : t < l.length) → (l.flatMap encM)[t * 3 + c]? = (encM l[t])[c]?
  | x :: l, 0, c, hc, _ => by
    rw [List.flatMap_cons, List.getElem?_append_left (by show 0 * 3 + c < 3; omega)]
    simp
  | x :: l, t + 1, c, hc, ht => by
    rw [List.flatMap_cons, List.getElem?_append_right (by show 3 ≤ _; omega)]
    have : (t + 1) * 3 + c - (encM x).length = t * 3 + c := by show _ - 3 = _; omega
    rw [this, flat_get l t c hc (by simpa using ht)]
    simp

theorem own_lt {w : World} {B : Nat} {e : TypeId} {size g len cap n : Nat} {xs : List Value} (h : w.ownsRow B e size (.slice (some ⟨g, 0, none⟩) len cap) n xs) : g < w.heap.size := by
  obtain ⟨_, h1 | ⟨g', cap', cur, hv, hg, hh, _⟩⟩ := h
  · simp at h1
  · simp at hv
    obtain ⟨rfl, _⟩ := hv
    exact (Array.getElem?_eq_some_iff.1 hh).1
/-- The operation's block behind the append. -/
theorem op_behind {wr w1 : World} {o : OpR} {pv : Addr} {m : Mk} {g : Nat} (hg : g < wr.heap.size) (h : ((wr.alloc (.cells (histCells o pv).toArray 57)).alloc (.cells (encM m).toArray 75)).grownBy w1 (some g)) : HOpAt w1 wr.heap.size 0 o pv := by
  have hb : w1.heap[wr.heap.size]? = some (.cells (histCells o pv).toArray 57) := by
    rw [h.block wr.heap.size (by simp; omega) (by simp; omega), Below.heap_alloc _ _ _ (by simp)]
    exact heap_alloc_new wr _
  exact HOpAt.of (fun j v hv => by simp only [World.cell?, hb]; simpa using hv)

/-- What the call owns, as the sort wants it. -/
theorem holds_of_own {w : World} {B g len cap : Nat} {l : List Mk} {d : Array Mb} (hd : d.toList.map ofMb = l) (h : w.ownsRow B 75 3 (.slice (some ⟨g, 0, none⟩) len cap) l.length (l.flatMap encM)) : HoldsK encB 3 w g 0 d ∧ g < w.heap.size := by
  have hlen : d.size = l.length := by rw [← hd]; simp
  have hcell := fun j v hj => own_cell h j v hj
  obtain ⟨_, h1 | ⟨g', cap', cur, hv, hg, hh, _, _, hsz, ht⟩⟩ := h
  · simp at h1
  · simp at hv
    obtain ⟨rfl, _⟩ := hv
    refine ⟨fun j hj => ?_, (Array.getElem?_eq_some_iff.1 hh).1⟩
    rw [size_flatK] at hj
    rw [get_flatK _ _ _ _ hj, Nat.zero_add]
    have hq : j / 3 < l.length := by omega
    have hdl : d[j / 3]! = d[j / 3]'(by omega) := getElem!_pos d _ _
    have hl : l[j / 3] = ofMb (d[j / 3]'(by omega)) := by subst hd; simp
    have e1 := flat_get l (j / 3) (j % 3) (Nat.mod_lt _ (by omega)) hq
    rw [show j / 3 * 3 + j % 3 = j by omega] at e1
    have hc : j % 3 < (encM l[j / 3]).length := Nat.mod_lt _ (by omega)
    obtain ⟨v, hv⟩ : ∃ v, (encM l[j / 3])[j % 3]? = some v := ⟨_, List.getElem?_eq_getElem hc⟩
    rw [hv] at e1
    constructor
    · rw [hcell j _ e1, hdl]
      have hb : encB (d[j / 3]'(by omega)) = encM l[j / 3] := by rw [hl]; rfl
      rw [hb, id, List.getElem!_of_getElem? hv]
    · simp only [World.frozen?, hh]; simp

theorem news_at2 (wr : World) (X : Obj) (m : Mk) (j : Nat) (u : Value) (h : (encM m)[j]? = some u) : ((wr.alloc X).alloc (.cells (encM m).toArray 75)).cell? ((⟨wr.heap.size + 1, 0, none⟩ : Addr).add j) = some u := by
  have hb := heap_alloc_new (wr.alloc X) (.cells (encM m).toArray 75)
  rw [show (wr.alloc X).heap.size = wr.heap.size + 1 by simp] at hb
  exact World.news_of_block hb j u h
theorem news_at1 (w1 : World) (m : Mk) (j : Nat) (u : Value) (h : (encM m)[j]? = some u) : (w1.alloc (.cells (encM m).toArray 75)).cell? ((⟨w1.heap.size, 0, none⟩ : Addr).add j) = some u :=
  World.news_of_block (heap_alloc_new w1 (.cells (encM m).toArray 75)) j u h
theorem encM_one (m : Mk) : ∀ u ∈ encM m, u.oneCell' = true := fun u hu => by
  simp [encM] at hu
  rcases hu with rfl | rfl | rfl <;> rfl

theorem marks_end {w wr : World} {ops : Nat → OpR} {n g m : Nat} {d d' : Array Mb} {os : Array Obj} (hd : d.toList.map ofMb = marksTo ops n) (hH : HoldsK encB 3 wr g 0 d) (hgl : g < wr.heap.size) (hge : w.heap.size ≤ g) (hbel : Below w.heap.size w wr)
    (hperm : PermIn 0 d.size d d') (hsorted : SortedIn (ltOf cfB) 0 d.size d') : MarksAt w (sortWorldK encB 3 wr g 0 m d' os) ops n g (d'.toList.map ofMb) := by
  obtain ⟨p1, _, p3⟩ := hperm
  have hH' : HoldsK encB 3 (sortWorldK encB 3 wr g 0 m d' os) g 0 d' := holdsK_sortWorldK encB 3 wr g 0 m d d' os hgl hH p1
  refine ⟨?_, ?_, ?_, ?_, hge, ?_⟩
  · rw [← hd]
    refine List.Perm.map ofMb ?_
    have e1 : (d'.extract 0 d.size).toList = d'.toList := by rw [← p1]; simp
    have e2 : (d.extract 0 d.size).toList = d.toList := by simp
    rw [e1, e2] at p3
    exact p3
  · intro s t hst ht hs
    simp only [List.length_map, Array.length_toList] at ht hs
    have h1 := hsorted s t (Nat.zero_le _) hst (by omega)
    rw [ltB, decide_eq_false_iff_not, getElem!_pos d' t (by omega), getElem!_pos d' s (by omega)] at h1
    simp only [List.getElem_map, Array.getElem_toList]
    show ((d'[s]'(by omega)).1.toNat : Int) ≤ ((d'[t]'(by omega)).1.toNat : Int)
    omega
  · intro t ht c hc
    simp only [List.length_map, Array.length_toList] at ht
    have h1 := (hH'.cell (i := t) (c := c) ht hc).1
    rw [Nat.zero_add, getElem!_pos d' t ht] at h1
    rw [h1]
    simp only [List.getElem_map, Array.getElem_toList]
    have hc' : c < (encM (ofMb (d'[t]'ht))).length := hc
    obtain ⟨v, hv⟩ : ∃ v, (encM (ofMb (d'[t]'ht)))[c]? = some v := ⟨_, List.getElem?_eq_getElem hc'⟩
    show some (encM (ofMb (d'[t]'ht)))[c]! = _
    rw [hv, List.getElem!_of_getElem? hv]
  · have b1 : Below w.heap.size w (putRow id (Sort.ahead wr m) g 0 (flatK encB 3 d')) := Go.Lib.below_putRow hbel hge
    have hs : (putRow id (Sort.ahead wr m) g 0 (flatK encB 3 d')).heap.size = wr.heap.size := by simp [putRow, mapBlock, Sort.ahead]
    have hw := hbel.size
    exact b1.trans ⟨rfl, rfl, rfl, by show (putRow id (Sort.ahead wr m) g 0 (flatK encB 3 d')).heap.size ≤ ((putRow id (Sort.ahead wr m) g 0 (flatK encB 3 d')).heap ++ os).size; rw [Array.size_append]; omega, fun j hj => heap_grow_old (putRow id (Sort.ahead wr m) g 0 (flatK encB 3 d')) os (by omega)⟩
  · exact Nat.lt_of_lt_of_le hgl (size_sortWorldK_c encB 3 wr g 0 m d' os)

theorem marks_bd {ops : Nat → OpR} : ∀ {k : Nat}, (∀ i, i < k → OpFine (ops i)) → (∀ i, i < k → 1 ≤ (ops i).inv ∧ 0 ≤ (ops i).comp) → ∀ m ∈ marksTo ops k, 0 ≤ m.1 ∧ m.1 ≤ 9223372036854775807
  | 0, _, _, m, hm => by simp [marksTo] at hm
  | k + 1, hf, hl, m, hm => by
    have ih := marks_bd (k := k) (fun i hi => hf i (by omega)) (fun i hi => hl i (by omega)) m
    have b1 := bounds_i64 (hf k (by omega)).inv
    have b2 := bounds_i64 (hf k (by omega)).comp
    have b3 := hl k (by omega)
    simp only [marksTo, List.mem_append, List.mem_singleton] at hm
    rcases hm with (hm | rfl) | hm
    · exact ih hm
    · exact ⟨by show 0 ≤ (ops k).inv; omega, b1.2⟩
    · split at hm
      · cases hm
      · simp at hm; subst hm; exact ⟨b3.2, b2.2⟩

set_option maxRecDepth 100000 in
set_option maxHeartbeats 1000000 in
theorem marks_any (hb n : Nat) (ops : Nat → OpR) (w : World) (hn : n ≤ 4096) (hist : HistAt w hb ops n) (hsz : hb + 1 + n ≤ w.heap.size) (hfine : ∀ i, i < n → OpFine (ops i)) (hline : ∀ i, i < n → 1 ≤ (ops i).inv ∧ 0 ≤ (ops i).comp) :
    Calls Try.prog 28 #[.slice (some ⟨hb, 0, none⟩) n n] w fun e w' => MarksSaid w w' ops n e := by
  obtain ⟨i0, hi, hz0, hz1, hz2⟩ := info_parts Try.info75
  go_enter Try.func28, Try.ntmps28
  go_wp2_with (at_make; refine stand ?_)
  unfold Hid
  refine wpList_make_own _ rfl _ _ 72 rfl w.heap.size 75 i0 (.agg #[.int .i64 0, .int .i64 0, .bool false]) 3 Try.underlying72 hi hz0 hz1 .i64 .i64 (2 * (n : Int)) (2 * n) rfl rfl (by simp) (by rw [hz2]; omega) (by unfold maxLen; omega) (Nat.le_refl _) ?_
  intro w0 hown0 hgrow0
  have bel0 : Below w.heap.size w w0 := (Below.refl _ _).grown hgrow0 (Nat.le_refl _) (fun k h => by cases h)
  clear hgrow0
  go_wp2
  go_loopw [3, 12] (fun v i wr => ∃ k g c : Nat, k ≤ n ∧ i = .int .i64 k ∧ v = .slice (some ⟨g, 0, none⟩) (marksTo ops k).length c ∧
      wr.ownsRow w.heap.size 75 3 (.slice (some ⟨g, 0, none⟩) (marksTo ops k).length c) (marksTo ops k).length ((marksTo ops k).flatMap encM) ∧ Below w.heap.size w wr) (fun _ i _ => n - (intOf i).toNat)
  case atStart => exact ⟨0, w.heap.size, 2 * n, Nat.zero_le _, rfl, rfl, hown0, bel0⟩
  case round =>
    obtain ⟨k, g, c, hk, rfl, rfl, hown, bel⟩ := hrel
    clear hown0 bel0
    by_cases hlt : k < n
    · have hist' := hist.below bel hsz
      obtain ⟨a0, a1, a2, a3, a4, a5, a6, a7, a8, a9, a10, a11, a12, a13⟩ := HOpAt.of (hist'.done k hlt)
      have hL := marksTo_len ops k
      have hbz := bel.size
      have hge := own_ge hown
      have BX : Hid (Below w.heap.size w (wr.alloc (.cells (histCells (ops k) ⟨hb + 1 + k, 0, none⟩).toArray 57))) := bel.alloc hbz _
      clear hist' hfine hline
      by_cases h3 : (ops k).comp = 0
      · have hl := hide (marksTo_no h3)
        generalize hxs : marksTo ops k = xs at *
        obtain ⟨o, hoo⟩ : ∃ o, o = ops k := ⟨_, rfl⟩
        rw [← hoo] at hl h3 BX a0 a1 a2 a3 a6 a7 a11 a12
        clear hxs hoo hist
        have hb7 : (o.comp != 0) = false := by simp [h3]
        clear h3
        go_wp2_with (at_builtin; refine stand ?_)
        unfold Hid
        refine wpList_append_lies _ rfl _ _ 72 rfl w.heap.size 75 i0 (.agg #[.int .i64 0, .int .i64 0, .bool false]) 3 24 Try.underlying72 hi hz0 hz1 hz2 rfl (by omega) (.slice (some ⟨g, 0, none⟩) xs.length c) xs.length (xs.flatMap encM) rfl ((hown.alloc _).alloc _) ⟨wr.heap.size + 1, 0, none⟩ 1 1 (encM (o.inv, k, false)) rfl rfl (news_at2 wr _ (o.inv, k, false)) (encM_one _) (by omega) (by unfold maxLen; omega) (by omega) (by simp; omega) (wr.heap.size + 1 + 1) (by simp) ?_
        intro g1 cap1 w1 hown1 hgrow1 hat1 hlt1
        have hb0 : Below (wr.heap.size + 1) (wr.alloc (.cells (histCells o ⟨hb + 1 + k, 0, none⟩).toArray 57)) ((wr.alloc (.cells (histCells o ⟨hb + 1 + k, 0, none⟩).toArray 57)).alloc (.cells (encM (o.inv, k, false)).toArray 75)) := (Below.refl _ _).alloc (by simp) _
        have hb1 : Below w.heap.size w w1 := (BX.out.trans (hb0.mono (by omega))).grown hgrow1 (by simp; omega) (fun j hj => by simp [Value.ownBlock] at hj; omega)
        have q7 := (op_behind (o := o) (pv := ⟨hb + 1 + k, 0, none⟩) (m := (o.inv, k, false)) (own_lt hown) hgrow1).c7
        simp only [Nat.zero_add] at q7
        have R : Hid (w1.ownsRow w.heap.size 75 3 (.slice (some ⟨g1, 0, none⟩) (marksTo ops (k + 1)).length cap1) (marksTo ops (k + 1)).length ((marksTo ops (k + 1)).flatMap encM)) := by
          rw [hl.out]; simpa [Hid] using hown1
        have hlen : Hid (xs.length + 1 = (marksTo ops (k + 1)).length) := by rw [hl.out]; simp [Hid]
        have HB1 := hide hb1
        clear hgrow1 hown1 hown hat1 hl a0 a1 a2 a3 a4 a5 a6 a7 a8 a9 a10 a11 a12 a13 hb0 BX bel hb1
        go_wp2
        go_roundw
        case rel => exact ⟨k + 1, g1, cap1, by omega, by go_num, by rw [← hlen.out], R.out, HB1.out⟩
        case measure => simp [intOf]; omega
      · have hl := hide (marksTo_yes h3)
        generalize hxs : marksTo ops k = xs at *
        obtain ⟨o, hoo⟩ : ∃ o, o = ops k := ⟨_, rfl⟩
        rw [← hoo] at hl h3 BX a0 a1 a2 a3 a6 a7 a11 a12
        clear hxs hoo hist
        have hb7 : (o.comp != 0) = true := by simp [h3]
        clear h3
        go_wp2_with (at_builtin; refine stand ?_)
        unfold Hid
        refine wpList_append_lies _ rfl _ _ 72 rfl w.heap.size 75 i0 (.agg #[.int .i64 0, .int .i64 0, .bool false]) 3 24 Try.underlying72 hi hz0 hz1 hz2 rfl (by omega) (.slice (some ⟨g, 0, none⟩) xs.length c) xs.length (xs.flatMap encM) rfl ((hown.alloc _).alloc _) ⟨wr.heap.size + 1, 0, none⟩ 1 1 (encM (o.inv, k, false)) rfl rfl (news_at2 wr _ (o.inv, k, false)) (encM_one _) (by omega) (by unfold maxLen; omega) (by omega) (by simp; omega) (wr.heap.size + 1 + 1) (by simp) ?_
        intro g1 cap1 w1 hown1 hgrow1 hat1 hlt1
        have hb0 : Below (wr.heap.size + 1) (wr.alloc (.cells (histCells o ⟨hb + 1 + k, 0, none⟩).toArray 57)) ((wr.alloc (.cells (histCells o ⟨hb + 1 + k, 0, none⟩).toArray 57)).alloc (.cells (encM (o.inv, k, false)).toArray 75)) := (Below.refl _ _).alloc (by simp) _
        have hb1 : Below w.heap.size w w1 := (BX.out.trans (hb0.mono (by omega))).grown hgrow1 (by simp; omega) (fun j hj => by simp [Value.ownBlock] at hj; omega)
        have q7 := (op_behind (o := o) (pv := ⟨hb + 1 + k, 0, none⟩) (m := (o.inv, k, false)) (own_lt hown) hgrow1).c7
        simp only [Nat.zero_add] at q7
        have hge1 := own_ge hown1
        have hbz1 := hb1.size
        have HW := hide hown1
        have HB1 := hide hb1
        clear hgrow1 hown1 hown hat1 a0 a1 a2 a3 a4 a5 a6 a7 a8 a9 a10 a11 a12 a13 hb0 BX bel hb1
        go_wp2_with (at_builtin; refine stand ?_)
        unfold Hid
        refine wpList_append_lies _ rfl _ _ 72 rfl w.heap.size 75 i0 (.agg #[.int .i64 0, .int .i64 0, .bool false]) 3 24 Try.underlying72 hi hz0 hz1 hz2 rfl (by omega) (.slice (some ⟨g1, 0, none⟩) (xs.length + 1) cap1) (xs.length + 1) (xs.flatMap encM ++ encM (o.inv, k, false)) rfl (HW.out.alloc _) ⟨w1.heap.size, 0, none⟩ 1 1 (encM (o.comp, k, true)) rfl rfl (news_at1 w1 (o.comp, k, true)) (encM_one _) (by omega) (by unfold maxLen; omega) (by omega) (by simp; omega) (w1.heap.size + 1) (by simp) ?_
        intro g2 cap2 w2 hown2 hgrow2 hat2 hlt2
        have hb2 : Below w.heap.size w w2 := (HB1.out.alloc hbz1 _).grown hgrow2 (by simp; omega) (fun j hj => by simp [Value.ownBlock] at hj; omega)
        have R : Hid (w2.ownsRow w.heap.size 75 3 (.slice (some ⟨g2, 0, none⟩) (marksTo ops (k + 1)).length cap2) (marksTo ops (k + 1)).length ((marksTo ops (k + 1)).flatMap encM)) := by
          rw [hl.out]; simpa [Hid] using hown2
        have hlen : Hid (xs.length + 1 + 1 = (marksTo ops (k + 1)).length) := by rw [hl.out]; simp [Hid]
        have HB2 := hide hb2
        clear hgrow2 hown2 hat2 hl HW HB1 q7 hb2
        go_wp2
        go_roundw
        case rel => exact ⟨k + 1, g2, cap2, by omega, by go_num, by rw [← hlen.out], R.out, HB2.out⟩
        case measure => simp [intOf]; omega
    · have : k = n := by omega
      subst this
      have hL := marksTo_len ops k
      obtain ⟨d, hd⟩ : ∃ d : Array Mb, d = ((marksTo ops k).map toMb).toArray := ⟨_, rfl⟩
      have hdl : d.toList.map ofMb = marksTo ops k := by
        rw [hd]
        simp only [List.map_map]
        refine (List.map_congr_left (fun m hm => ?_)).trans (List.map_id _)
        exact of_to (marks_bd hfine hline m hm).1 (marks_bd hfine hline m hm).2
      obtain ⟨hH, hgl⟩ := holds_of_own hdl hown
      have hds : d.size = (marksTo ops k).length := by rw [hd]; simp
      have hsort := hide (sort_any g c d wr hH hgl (by omega))
      have hge := own_ge hown
      rw [hds] at hsort
      have HD := hide hdl
      have HBEL := hide bel
      have HH := hide hH
      have HDS := hide hds
      clear hd hdl hist hfine hline hown hH bel hds
      generalize hxs : marksTo ops k = xs at *
      have HXS := hide hxs
      clear hxs
      go_wp2_with fail
      refine hsort.out.mono ?_
      rintro e w' ⟨rfl, d', n', os, hperm, hsorted, rfl⟩
      go_wp2
      go_ret
      rw [← HDS.out] at hperm hsorted
      have hl : xs.length = (d'.toList.map ofMb).length := by
        rw [← HDS.out, List.length_map, Array.length_toList, hperm.1]
      refine ⟨g, c, d'.toList.map ofMb, ?_, marks_end (by rw [HD.out, HXS.out]) HH.out hgl hge HBEL.out hperm hsorted⟩
      rw [← hl]
      rfl
end Go.Proofs.Qxb6604187a
