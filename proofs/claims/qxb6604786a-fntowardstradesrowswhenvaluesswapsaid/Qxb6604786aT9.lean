import Derived.Test.Qxb6604786aT7
import Derived.Test.Qxb6604786aT8
namespace Go.Proofs.Qxb6604786a
open Go.RowKit

theorem nums_of {start frm nodes vs : Nat → Int} {n0 n1 n2 n3 n4 m0 m1 : Nat} (hS : Small n0 n1 n2 n3 n4 m0 m1) (hD : Dom start frm nodes n0 n1 n2 n3 n4 m0 m1) (hv : ∀ i, i < n4 → -128 ≤ vs i ∧ vs i ≤ 127) : Nums start frm nodes vs n0 n1 n2 m0 where
  hn := hS.h5
  hn0 := hS.h0
  hn1 := hS.h1
  hm := hS.h2
  slen := hD.slen
  sge := fun u hu => by
    have e1 := mono_le hD.mono u 0 (Nat.zero_le _) hu
    have e2 := mono_le hD.mono m0 u hu (Nat.le_refl _)
    have := hD.s0
    have := hD.sn
    omega
  mono := hD.mono
  tails := hD.tails
  heads := hD.heads
  vals := fun i hi => hv i (by rw [hD.nv]; exact hi)

theorem Kept.below {D : Nat → Prop} {w w' : World} {B : Nat} (h : Kept D w w') (hB : B ≤ w.heap.size) (hD : ∀ k, D k → B ≤ k) : Below B w w' :=
  ⟨h.os, h.tape, h.output, h.size, fun k hk => h.block k (by omega) (fun hd => by have := hD k hd; omega)⟩

/-- The blocks of the two rows. -/
def rowsIn (a0 a1 : Option Addr) (k : Nat) : Prop := (∃ p, a0 = some p ∧ p.block = k) ∨ (∃ p, a1 = some p ∧ p.block = k)

/-- The five clones, all of which lie below B. -/
structure Clones (w : World) (B : Nat) (ast af an ar av : Option Addr) (start frm nodes rounds vs : Nat → Int) (n0 n1 m : Nat) : Prop where
  st : IsRow .i64 w ast n0 start
  fr : IsRow .i32 w af n1 frm
  no : IsRow .i32 w an m nodes
  ro : IsRow .i64 w ar m rounds
  va : IsRow .i8 w av m vs
  ls : ∀ p, ast = some p → p.block < B
  lf : ∀ p, af = some p → p.block < B
  ln : ∀ p, an = some p → p.block < B
  lr : ∀ p, ar = some p → p.block < B
  lv : ∀ p, av = some p → p.block < B

section
variable {w w' : World} {B : Nat} {ast af an ar av : Option Addr} {start frm nodes rounds vs : Nat → Int} {n0 n1 m n : Nat}
theorem Clones.kept {D : Nat → Prop} (h : Clones w B ast af an ar av start frm nodes rounds vs n0 n1 m) (hk : Kept D w w') (hD : ∀ k, D k → B ≤ k) : Clones w' B ast af an ar av start frm nodes rounds vs n0 n1 m :=
  ⟨h.st.kept hk fun p hp hd => by have := h.ls p hp; have := hD _ hd; omega, h.fr.kept hk fun p hp hd => by have := h.lf p hp; have := hD _ hd; omega, h.no.kept hk fun p hp hd => by have := h.ln p hp; have := hD _ hd; omega,
    h.ro.kept hk fun p hp hd => by have := h.lr p hp; have := hD _ hd; omega, h.va.kept hk fun p hp hd => by have := h.lv p hp; have := hD _ hd; omega, h.ls, h.lf, h.ln, h.lr, h.lv⟩
theorem Clones.below (h : Clones w B ast af an ar av start frm nodes rounds vs n0 n1 m) (hb : Below w.heap.size w w') : Clones w' B ast af an ar av start frm nodes rounds vs n0 n1 m := h.kept (D := fun _ => False) (Kept.of_below hb) (fun _ h => h.elim)

/-- All is ready for ZZTowards at a copy. -/
theorem Copied.zin {w0 : World} {c : Nat} {a0 a1 : Option Addr} {f0 f1 : Nat → Int} (hc : Copied w0 w c a0 a1 n f0 f1) (h : Clones w w0.heap.size ast af an ar av start frm nodes rounds vs n0 n1 m) : ZIn (rowsIn a0 a1) w c ast af an ar av a0 a1 start frm nodes rounds vs n0 n1 m n := by
  have hge : ∀ k, rowsIn a0 a1 k → c < k := fun k hk => by
    rcases hk with ⟨p, hp, rfl⟩ | ⟨p, hp, rfl⟩
    · exact hc.g0 p hp
    · exact hc.g1 p hp
  have hcg := hc.ge
  refine ⟨hc.c0, hc.c1, h.st, h.fr, h.no, h.ro, h.va, fun hd => ?_, fun p hp hd => ?_, fun p hp hd => ?_, fun p hp => Or.inl ⟨p, hp, rfl⟩, fun p hp => Or.inr ⟨p, hp, rfl⟩, fun k hk => ?_, fun p q hp hq => ?_, ⟨f0, hc.r0⟩, ⟨f1, hc.r1⟩⟩
  · have := hge c hd; omega
  · have := h.ls p hp; have := hge _ hd; omega
  · have := h.lf p hp; have := hge _ hd; omega
  · rcases hk with ⟨p, hp, rfl⟩ | ⟨p, hp, rfl⟩
    · exact hc.r0.lt p hp
    · exact hc.r1.lt p hp
  · have := hc.apart p q hp hq; omega
theorem Copied.far {w0 : World} {c : Nat} {a0 a1 : Option Addr} {f0 f1 : Nat → Int} (hc : Copied w0 w c a0 a1 n f0 f1) : ∀ k, rowsIn a0 a1 k → c < k := fun k hk => by
  rcases hk with ⟨p, hp, rfl⟩ | ⟨p, hp, rfl⟩
  · exact hc.g0 p hp
  · exact hc.g1 p hp
end

/-- What is known of the arguments. -/
structure ArgsIn (w : World) (a0 a1 a2 a3 a4 : Option Addr) (n0 n1 n2 n3 n4 : Nat) (start frm nodes rounds vs : Nat → Int) : Prop where
  l0 : n0 ≤ maxLen
  l1 : n1 ≤ maxLen
  l2 : n2 ≤ maxLen
  l3 : n3 ≤ maxLen
  l4 : n4 ≤ maxLen
  st : IsRow .i64 w a0 n0 start
  fr : IsRow .i32 w a1 n1 frm
  no : IsRow .i32 w a2 n2 nodes
  ro : IsRow .i64 w a3 n3 rounds
  va : IsRow .i8 w a4 n4 vs
  bf : In32 n1 frm
  bn : In32 n2 nodes
  bv : ∀ i, i < n4 → -128 ≤ vs i ∧ vs i ≤ 127

set_option maxRecDepth 100000 in
set_option maxHeartbeats 1000000 in
theorem walk5_nil (a0 a1 a2 a3 a4 : Option Addr) (n0 c0 n1 c1 n2 c2 n3 c3 n4 c4 : Nat) (start frm nodes rounds vs : Nat → Int) (round : Int) (w : World) (hA : ArgsIn w a0 a1 a2 a3 a4 n0 n1 n2 n3 n4 start frm nodes rounds vs) :
    Calls Try.prog 5 #[.slice a0 n0 c0, .slice a1 n1 c1, .slice a2 n2 c2, .slice a3 n3 c3, .slice a4 n4 c4, .int .i64 round, .pointer none] w fun e w' => e = .returned (.bool true) ∧ Below w.heap.size w w' := by
  have H1 := hide (zz_nil a0 a1 a2 a3 a4 n0 c0 n1 c1 n2 c2 n3 c3 n4 c4 round w hA.l0 hA.l1 hA.l2 hA.l3 hA.l4)
  have H2 := hide (over_nil a0 a1 a2 a3 a4 n0 c0 n1 c1 n2 c2 n3 c3 n4 c4 w hA.l0 hA.l1 hA.l2 hA.l3 hA.l4)
  clear hA
  go_enter Try.func5, Try.ntmps5
  go_wp2_with fail
  refine H1.out.mono ?_
  rintro e w1 ⟨⟨r, rfl⟩, rfl⟩
  clear H1
  cases r
  · go_wp2
    go_ret
    exact ⟨rfl, Below.refl _ _⟩
  go_wp2_with fail
  refine H2.out.mono ?_
  rintro e w2 ⟨⟨r, rfl⟩, rfl⟩
  clear H2
  cases r
  · go_wp2
    go_ret
    exact ⟨rfl, Below.refl _ _⟩
  · go_wp2
    go_ret
    exact ⟨rfl, Below.refl _ _⟩

/-- Nothing that lay in w has turned, and all has been laid behind it. -/
theorem bel_on {w w1 w2 : World} (h : Below w.heap.size w w1) (h' : Below w1.heap.size w1 w2) : Below w.heap.size w w2 := h.trans (h'.mono h.size)

set_option maxRecDepth 100000 in
set_option maxHeartbeats 1000000 in
theorem walk5_any (a0 a1 a2 a3 a4 b0 b1 : Option Addr) (n0 c0 n1 c1 n2 c2 n3 c3 n4 c4 m0 e0 m1 e1 b off : Nat) (start frm nodes rounds vs f0 f1 : Nat → Int) (round : Int) (w : World) (hA : ArgsIn w a0 a1 a2 a3 a4 n0 n1 n2 n3 n4 start frm nodes rounds vs)
    (l5 : m0 ≤ maxLen) (l6 : m1 ≤ maxLen) (hR : TwoRows w b off b0 b1 m0 e0 m1 e1) (hr0 : IsRow .i32 w b0 m0 f0) (hr1 : IsRow .i32 w b1 m1 f1) :
    Calls Try.prog 5 #[.slice a0 n0 c0, .slice a1 n1 c1, .slice a2 n2 c2, .slice a3 n3 c3, .slice a4 n4 c4, .int .i64 round, .pointer (some ⟨b, off, none⟩)] w fun e w' => e = .returned (.bool true) ∧ Below w.heap.size w w' := by
  have H1 := hide (zz_any a0 a1 a2 a3 a4 b0 b1 n0 c0 n1 c1 n2 c2 n3 c3 n4 c4 m0 e0 m1 e1 b off round w hA.l0 hA.l1 hA.l2 hA.l3 hA.l4 l5 l6 hR)
  have H2 := hide (over_any a0 a1 a2 a3 a4 b0 b1 n0 c0 n1 c1 n2 c2 n3 c3 n4 c4 m0 e0 m1 e1 b off w hA.l0 hA.l1 hA.l2 hA.l3 hA.l4 l5 l6 hR)
  have HA := hide hA
  have HR := hide hR
  have HR0 := hide hr0
  have HR1 := hide hr1
  clear hA hR hr0 hr1
  go_enter Try.func5, Try.ntmps5
  go_wp2_with fail
  refine H1.out.mono ?_
  rintro e w1 ⟨⟨r, rfl⟩, rfl⟩
  clear H1
  cases r
  · go_wp2
    go_ret
    exact ⟨rfl, Below.refl _ _⟩
  go_wp2_with fail
  refine H2.out.mono ?_
  rintro e w2 ⟨⟨r, rfl, hS⟩, rfl⟩
  clear H2
  cases r
  case true =>
    go_wp2
    go_ret
    exact ⟨rfl, Below.refl _ _⟩
  have HS := hide (hS rfl)
  have H3 := hide (dom_any a0 a1 a2 a3 a4 b0 b1 n0 c0 n1 c1 n2 c2 n3 c3 n4 c4 m0 e0 m1 e1 b off start frm nodes w2 HS.out HR.out HA.out.st HA.out.fr HA.out.no HA.out.bf HA.out.bn)
  clear hS
  go_wp2_with fail
  refine H3.out.mono ?_
  rintro e w3 ⟨⟨r, rfl, hD⟩, bel3⟩
  clear H3
  cases r
  case false =>
    have HB := hide bel3
    clear bel3 hD
    go_wp2
    go_ret
    exact ⟨rfl, HB.out⟩
  have hD := hD rfl
  obtain rfl : m1 = m0 := hD.rows
  obtain rfl : n3 = n2 := hD.nr
  obtain rfl : n4 = n3 := hD.nv
  have HN := hide (nums_of HS.out hD HA.out.bv)
  clear hD
  have HB3 := hide bel3
  have C1 := hide (clone17 a0 n0 c0 start w3 HS.out.h0 (HA.out.st.below bel3))
  clear bel3
  go_wp2_with fail
  refine C1.out.mono ?_
  rintro e w4 ⟨s0, rfl, k0⟩
  have K0 := hide k0
  have HB4 := hide (bel_on HB3.out k0.bel)
  have C2 := hide (clone18 a1 n1 c1 frm w4 HS.out.h1 (HA.out.fr.below HB4.out))
  clear C1 k0
  go_wp2_with fail
  refine C2.out.mono ?_
  rintro e w5 ⟨s1, rfl, k1⟩
  have K1 := hide k1
  have HB5 := hide (bel_on HB4.out k1.bel)
  have C3 := hide (clone18 a2 n4 c2 nodes w5 HS.out.h2 (HA.out.no.below HB5.out))
  clear C2 k1
  go_wp2_with fail
  refine C3.out.mono ?_
  rintro e w6 ⟨s2, rfl, k2⟩
  have K2 := hide k2
  have HB6 := hide (bel_on HB5.out k2.bel)
  have C4 := hide (clone17 a3 n4 c3 rounds w6 HS.out.h3 (HA.out.ro.below HB6.out))
  clear C3 k2
  go_wp2_with fail
  refine C4.out.mono ?_
  rintro e w7 ⟨s3, rfl, k3⟩
  have K3 := hide k3
  have HB7 := hide (bel_on HB6.out k3.bel)
  have C5 := hide (clone19 a4 n4 c4 vs w7 HS.out.h4 (HA.out.va.below HB7.out))
  clear C4 k3
  go_wp2_with fail
  refine C5.out.mono ?_
  rintro e w8 ⟨s4, rfl, k4⟩
  have HB8 := hide (bel_on HB7.out k4.bel)
  have q0 := (HB8.out.cell (World.block_lt_of_cell? _ _ HR.out.r0)).trans HR.out.r0
  have CL : Hid (Clones w8 w8.heap.size s0 s1 s2 s3 s4 start frm nodes rounds vs n0 n1 n4) := by
    have x3 := K3.out.row.below k4.bel
    have g2 := bel_on K3.out.bel k4.bel
    have x2 := K2.out.row.below g2
    have g1 := bel_on K2.out.bel g2
    have x1 := K1.out.row.below g1
    have g0 := bel_on K1.out.bel g1
    have x0 := K0.out.row.below g0
    exact ⟨x0.row, x1.row, x2.row, x3.row, k4.row.row, x0.lt, x1.lt, x2.lt, x3.lt, k4.row.lt⟩
  have C6 := hide (copy_any b off m1 e0 e1 b0 b1 f0 f1 w8 HS.out.h5 ⟨q0, (HB8.out.cell (World.block_lt_of_cell? _ _ HR.out.r1)).trans HR.out.r1⟩ (HR0.out.below HB8.out) (HR1.out.below HB8.out))
  clear C5 k4 K0 K1 K2 K3 HB3 HB4 HB5 HB6 HB7
  go_wp2_with fail
  refine C6.out.mono ?_
  rintro e w9 ⟨c, r0, r1, rfl, hc⟩
  have CL9 := hide (CL.out.below hc.bel)
  have HC := hide hc
  have HB9 := hide (bel_on HB8.out hc.bel)
  have C7 := hide (zz_towards (rowsIn r0 r1) c s0 s1 s2 s3 s4 r0 r1 start frm nodes rounds vs round n0 n1 n4 m1 w9 (hc.zin CL9.out) HN.out _ _ rfl rfl)
  clear C6 CL hc q0
  go_wp2_with fail
  refine C7.out.mono ?_
  rintro e wA ⟨rfl, hd⟩
  clear C7
  have hfar := HC.out.far
  have hcg := HC.out.ge
  have h8 := HB8.out.size
  have CLA := hide (CL9.out.kept hd.kept (fun k hk => by have := hfar k hk; omega))
  have HBA : Hid (Below w2.heap.size w2 wA) := HB9.out.trans (hd.kept.below HB9.out.size (fun k hk => by have := hfar k hk; omega))
  obtain ⟨dd0, o0, D0⟩ := hd.r0
  obtain ⟨dd1, o1, D1⟩ := hd.r1
  have nc : ¬ rowsIn r0 r1 c := fun h => Nat.lt_irrefl _ (hfar c h)
  have z0 := (hd.kept.cell (p := ⟨c, 0, none⟩) HC.out.lt nc).trans HC.out.c0
  have z1 := (hd.kept.cell (p := ⟨c, 1, none⟩) HC.out.lt nc).trans HC.out.c1
  have hcA : c < wA.heap.size := Nat.lt_of_lt_of_le HC.out.lt hd.kept.size
  have C8 := hide (char_any c 0 (by omega) s0 s1 s2 s3 s4 r0 start frm nodes rounds vs dd0 round n0 n1 n4 m1 wA z0 CLA.out.st CLA.out.fr CLA.out.no CLA.out.ro CLA.out.va o0.row HN.out D0)
  have HO1 := hide o1
  have HD1 := hide D1
  have HZ1 := hide z1
  clear o0 D0 o1 D1 z0 z1 hd CL9 HB9 HB8 hfar hcg h8 nc HC
  go_wp2_with fail
  refine C8.out.mono ?_
  rintro e wB ⟨rfl, belB⟩
  have CLB := hide (CLA.out.below belB)
  have HBB := hide (bel_on HBA.out belB)
  have C9 := hide (char_any c 1 (by omega) s0 s1 s2 s3 s4 r1 start frm nodes rounds vs dd1 round n0 n1 n4 m1 wB ((belB.cell hcA).trans HZ1.out) CLB.out.st CLB.out.fr CLB.out.no CLB.out.ro CLB.out.va (HO1.out.row.below belB) HN.out HD1.out)
  clear C8 belB CLA HBA HO1 HD1 HZ1
  go_wp2_with fail
  refine C9.out.mono ?_
  rintro e wC ⟨rfl, belC⟩
  have HBC := hide (bel_on HBB.out belC)
  clear C9 belC
  go_wp2
  go_ret
  exact ⟨rfl, HBC.out⟩
end Go.Proofs.Qxb6604786a
