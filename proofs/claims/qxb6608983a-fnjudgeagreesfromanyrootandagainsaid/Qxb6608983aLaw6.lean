import Derived.Test.Qxb6608983aSet6
import Derived.Deep.RegionWith
set_option linter.unusedVariables false
set_option linter.unusedSimpArgs false
namespace Go.Proofs.Qxb6608983a
open Go.ChangeShapes Go.WideShapes Go.ChangeAt Go.RowKit
open G (upd upd_same upd_other)

set_option maxHeartbeats 40000000 in
set_option maxRecDepth 100000 in
theorem walk6 (a0 a1 a2 a3 : Option Addr) (n0 c0 n1 c1 n c2 n3 c3 : Nat) (fa fb : Nat → Int) (F C : Nat → Bool) (p l : Int) (w : World)
    (h0 : Ints w a0 n0 fa) (h1 : Ints w a1 n1 fb) (h2 : Bools w a2 n F) (h3 : Bools w a3 n3 C) :
    Calls Try.prog 6 #[.slice a0 n0 c0, .slice a1 n1 c1, .slice a2 n c2, .slice a3 n3 c3, .int .i64 p, .int .i64 l] w fun e w' => e = .returned (.bool true) ∧ Below w.heap.size w w' := by
  have hbd : ∀ k, Below w.heap.size w (w.drewN k) := fun k => ((Keeps.refl (fun _ => False) w).drewN k).below (Nat.le_refl _) (fun _ _ => id)
  go_enter Try.func6, Try.ntmps6
  go_wp2_with fail
  refine (bytes6_any a0 a1 a2 a3 n0 c0 n1 c1 n c2 n3 c3 p l w).mono ?_
  rintro e w' ⟨⟨x, rfl⟩, hw⟩
  obtain rfl := hw.symm
  clear hw
  rcases x with _ | _
  · go_wp2_with fail
    go_ret
    exact ⟨rfl, Below.refl _ _⟩
  rcases Nat.lt_or_ge 4096 n0 with e0 | e0
  · have hi : (4096 : Int) < n0 := by omega
    go_wp2_with fail
    go_ret
    exact ⟨rfl, Below.refl _ _⟩
  have i0 : ¬ (4096 : Int) < n0 := by omega
  rcases Nat.lt_or_ge 4096 n1 with e1 | e1
  · have hi : (4096 : Int) < n1 := by omega
    go_wp2_with fail
    go_ret
    exact ⟨rfl, Below.refl _ _⟩
  have i1 : ¬ (4096 : Int) < n1 := by omega
  rcases Nat.lt_or_ge 256 n with e2 | e2
  · have hi : (256 : Int) < n := by omega
    go_wp2_with fail
    go_ret
    exact ⟨rfl, Below.refl _ _⟩
  have i2 : ¬ (256 : Int) < n := by omega
  rcases Nat.lt_or_ge 4096 n3 with e3 | e3
  · have hi : (4096 : Int) < n3 := by omega
    go_wp2_with fail
    go_ret
    exact ⟨rfl, Below.refl _ _⟩
  have i3 : ¬ (4096 : Int) < n3 := by omega
  go_wp2_with fail
  refine (fit_any a0 a1 a3 c0 c1 c3 n n0 n1 n3 fa fb _ e0 e1 e3 (by omega) h0 h1).mono ?_
  rintro e w' ⟨⟨x, rfl, hx⟩, nd, rfl⟩
  rcases x with _ | _
  · go_wp2_with fail
    go_ret
    exact ⟨rfl, hbd _⟩
  obtain ⟨rfl, rfl, hfit⟩ := hx rfl
  clear hx e1 e3 i1 i3
  obtain ⟨A, hA⟩ : ∃ A : Nat → Nat, ∀ i, i < n0 → fa i = (A i : Int) := ⟨fun i => (fa i).toNat, fun i hi => by have := hfit i hi; show fa i = ((fa i).toNat : Int); omega⟩
  obtain ⟨B, hB⟩ : ∃ B : Nat → Nat, ∀ i, i < n0 → fb i = (B i : Int) := ⟨fun i => (fb i).toNat, fun i hi => by have := hfit i hi; show fb i = ((fb i).toNat : Int); omega⟩
  have hE : G.Ends n n0 A B := fun i hi => by
    have h := hfit i hi
    have ha := hA i hi
    have hb := hB i hi
    omega
  replace h0 := h0.congr hA
  replace h1 := h1.congr hB
  clear hfit hA hB fa fb
  rcases Int.lt_or_le p 0 with p0 | p0
  · go_wp2_with fail
    go_ret
    exact ⟨rfl, hbd _⟩
  obtain ⟨p', rfl⟩ : ∃ p' : Nat, p = p' := ⟨p.toNat, by omega⟩
  rcases Nat.lt_or_ge p' n with pn | pn
  case inr =>
    have hi : (n : Int) ≤ (p' : Int) := by omega
    go_wp2_with fail
    go_ret
    exact ⟨rfl, hbd _⟩
  have hpi : (p' : Int) < (n : Int) := by omega
  have hpi2 : ¬ (n : Int) ≤ (p' : Int) := by omega
  rcases h2 with h2 | ⟨b2, o2, rfl, hc2⟩
  · omega
  have cp := hc2 p' pn
  rcases hFp : F p' with _ | _
  case true =>
    rw [hFp] at cp
    go_wp2_with fail
    go_ret
    exact ⟨rfl, hbd _⟩
  rw [hFp] at cp
  rcases Int.lt_or_le l 0 with l0 | l0
  · go_wp2_with fail
    go_ret
    exact ⟨rfl, hbd _⟩
  obtain ⟨q', rfl⟩ : ∃ q' : Nat, l = q' := ⟨l.toNat, by omega⟩
  rcases Nat.lt_or_ge q' n with qn | qn
  case inr =>
    have hi : (n : Int) ≤ (q' : Int) := by omega
    go_wp2_with fail
    go_ret
    exact ⟨rfl, hbd _⟩
  have hqi : (q' : Int) < (n : Int) := by omega
  have hqi2 : ¬ (n : Int) ≤ (q' : Int) := by omega
  have cq := hc2 q' qn
  rcases hFq : F q' with _ | _
  case true =>
    rw [hFq] at cq
    go_wp2_with fail
    go_ret
    exact ⟨rfl, hbd _⟩
  rw [hFq] at cq
  have k2 : Bools (w.drewN nd) (some ⟨b2, o2, none⟩) n F := .inr ⟨b2, o2, rfl, hc2⟩
  have k3 : Bools (w.drewN nd) a3 n0 C := h3
  have k0 : Ints (w.drewN nd) a0 n0 (fun i => (A i : Int)) := h0
  have k1 : Ints (w.drewN nd) a1 n0 (fun i => (B i : Int)) := h1
  have hbW : Hid (Below w.heap.size w (w.drewN nd) ∧ (w.drewN nd).heap.size = w.heap.size) := ⟨hbd _, rfl⟩
  obtain ⟨DD, hD⟩ := G.exists_all F C (portsOf_portsTo n n0 A B) hE
  obtain ⟨N, hN⟩ : ∃ N, Hid (n * n = N) := ⟨_, rfl⟩
  have hDx : G.AllD n n0 A B (usableX A B F C (-1)) DD := by rw [usableX_minus]; exact hD
  go_wp2_with fail
  clear cp cq hc2 h0 h1 h3 hbd
  generalize w.drewN nd = W at *
  refine (pairs_any a0 a1 (some ⟨b2, o2, none⟩) a3 c0 c1 c2 c3 n n0 N A B F C DD W e0 e2 (by omega) hN k0 k1 k2 k3 hE hDx).mono ?_
  rintro e w1 ⟨rfl, hrow, bl1⟩
  obtain ⟨r1, x1, hx1, z1, z2, hx1N⟩ := idx2 hN e2 pn qn
  have ed := hrow.get2 hN pn qn hx1
  have hsz1 : Hid (W.heap.size < w1.heap.size) := hrow.lt
  replace bl1 : Hid (Below W.heap.size W w1) := bl1
  rcases Int.lt_or_le (DD p' q') 0 with hneg | hcomp
  · go_wp2_with fail
    go_ret
    exact ⟨rfl, hbW.out.1.trans (by rw [← hbW.out.2]; exact bl1.out)⟩
  go_wp2_with fail
  refine (diam_any W.heap.size n N p' DD w1 e2 hN pn hrow (hD p' pn).src0).mono ?_
  rintro e w2 ⟨Wd, rfl, hdm, hW0, nd2, rfl⟩
  have bl2 : Hid (Below W.heap.size W (w1.drewN nd2) ∧ W.heap.size < (w1.drewN nd2).heap.size) := ⟨below_drewN bl1.out _, hsz1.out⟩
  replace hdm : Hid _ := hdm
  clear bl1 ed hrow hsz1 z1 z2 hx1N hx1
  generalize w1.drewN nd2 = W1 at *
  have j0 := k0.later bl2.out.1
  have j1 := k1.later bl2.out.1
  go_wp2_with fail
  refine (links_any a0 a1 c0 c1 n0 _ _ W1 e0 j0 j1).mono ?_
  rintro e W2 ⟨rfl, bl3, s3⟩
  have bl3a : Hid (Below W1.heap.size W1 W2) := bl3
  have bl4 : Hid (Below W.heap.size W W2 ∧ W.heap.size < W2.heap.size) := ⟨bl2.out.1.trans (bl3.mono (by have := bl2.out.2; omega)), by have := bl2.out.2; omega⟩
  have j0 := k0.later bl4.out.1
  have j1 := k1.later bl4.out.1
  clear bl3 s3 bl3a bl2
  generalize W1.heap.size = Lk at *
  go_wp2_with fail
  refine (ports_any a0 a1 c0 c1 n n0 A B W2 e0 (by omega) j0 j1 hE).mono ?_
  rintro e W3 ⟨rfl, hp, bl5, s5⟩
  have hpoa := hp.ports
  have bl6 : Hid (Below W.heap.size W W3 ∧ W.heap.size < W3.heap.size ∧ W.heap.size ≤ W2.heap.size ∧ W2.heap.size < W3.heap.size) := by
    have := bl4.out.2
    exact ⟨bl4.out.1.trans (bl5.mono (by omega)), by omega, by omega, by omega⟩
  clear hp bl5 s5 bl4 j0 j1
  have j2a := k2.later bl6.out.1
  have j3a := k3.later bl6.out.1
  generalize W2.heap.size = lo at *
  obtain ⟨hi0, hhi0⟩ : ∃ hi0, Hid (hi0 = W3.heap.size) := ⟨_, rfl⟩
  rw [← hhi0.out] at hpoa
  have hpv : Hid (∀ u, u < n → ∀ pr, pr ∈ portsTo A B n0 u → pr.1 < n ∧ pr.2 < n0) := fun u hu pr hpr => by
    obtain ⟨h1, h2⟩ := (mem_portsTo A B n0 u pr.1 pr.2).1 hpr
    exact ⟨(hE.lt h1 h2).2, h1⟩
  have hpl : Hid (∀ u, (portsTo A B n0 u).length ≤ 8192) := fun u => by have := portsTo_length A B n0 u; omega
  have hmk := make_ints n (by omega)
  have e2' : n ≤ 256 := e2
  have hwn2 : IntKind.i64.wrap ((n : Int) + 2) = (n : Int) + 2 := wrap_small _ (by omega) (by omega)
  have hmk2 : ∀ w, (Instr.makeSlice 22 (.int .i64 ((n : Int) + 2)) (.int .i64 ((n : Int) + 2))).run Try.prog w = .ok (.slice (some ⟨w.heap.size, 0, none⟩) (n + 2) (n + 2)) (w.alloc (.cells (madeCells #[.int .i64 0] (n + 2)) 3)) := fun w => by
    have h := make_ints (n + 2) (by omega) w
    rw [show ((n + 2 : Nat) : Int) = (n : Int) + 2 by omega] at h
    exact h
  go_wp2_with fail
  refine (clone_any (some ⟨b2, o2, none⟩) n c2 F W3 (by omega) (by omega) j2a).mono ?_
  rintro e V1a ⟨rfl, hfa, d1a, s1a⟩
  have j3aa := j3a.later d1a
  replace s1a : Hid (V1a.heap.size = W3.heap.size + 1) := s1a
  go_wp2_with fail
  refine (clone_all a3 n0 c3 C V1a W3.heap.size e0 (by have := s1a.out; omega) j3aa).mono ?_
  rintro e V2a ⟨aca, gca, rfl, hcca, hg1a, hg2a, d2a⟩
  replace hcca : Hid (0 < n0 → aca = some ⟨gca, 0, none⟩ ∧ BRow V2a gca n0 C) := hcca
  replace hg1a : Hid (W3.heap.size ≤ gca) := hg1a
  replace hg2a : Hid (gca < V2a.heap.size) := hg2a
  go_wp2_with fail
  refine (newWalk_any n n0 lo W3.heap.size aca V2a (by omega)).mono ?_
  rintro e V3a ⟨rfl, hwka, r1a, r2a, r3a, d3a, s3a⟩
  replace s3a : Hid (V3a.heap.size = V2a.heap.size + 4) := s3a
  go_upto_region 25 with fail
  go_cut [19] (fun s wx => Sv V3a wx s V2a.heap.size n n0 n0 (some ⟨Lk, 0, none⟩))
  case first =>
    clear hfa d1a d2a d3a hwka r1a r2a r3a hpoa k0 k1 k2 k3 j2a j3a j3aa hD hDx hE
    go_region_with (go_at_call 14; refine (newSurvey_any _ _ _ _ _ _ _ _ _).mono ?_; rintro e w' ⟨rfl, rfl⟩)
    all_goals go_wp2
    all_goals go_meet
    all_goals simp only [sv0, sv1, sv2, sv3, sv4, sv5]
  case rest =>
    obtain ⟨gua, gsa, goa, Sa, rfl, hgsa, hSba, u1a, u2a, u3a, d4a⟩ := hcut
    obtain ⟨wcsa, wba, wcca⟩ := hwka
    have m0a := cell_later d4a (wba.cell wcca.c0)
    have m1a := cell_later d4a (wba.cell wcca.c1)
    have m2a := cell_later d4a (wba.cell wcca.c2)
    replace hgsa : Hid _ := hgsa
    go_wp2_with fail
    refine ZZtree_any _ _ wc ((tree_any V2a.heap.size n n0 lo W3.heap.size aca n0 (some ⟨Lk, 0, none⟩) wc (by omega) e0 m0a m1a m2a).mono ?_)
    rintro e V5a ⟨Ta, tda, tcsa, rfl, hTa, hTda, tba, tsza, tWa, t14a, tr1a, tr2a, tr3a, d5a, s5a⟩
    refine ⟨_, rfl, ?_⟩
    obtain ⟨y1a, y2a, y3a, y4a, y5a, y6a, y7a⟩ := plant_ready hpoa (Nat.le_of_eq hhi0.out) hfa d1a s1a.out hcca.out hg1a.out hg2a.out d2a d3a s3a.out d4a hTa hTda d5a
    clear m0a m1a m2a s5a
    go_wp2_with fail
    refine ZZplant_any _ _ V5a ((plant_any Ta n n0 lo hi0 W3.heap.size gca tda (tda + 1) (tda + 2) 0 p' aca 78 tcsa (portsTo A B n0) F C V5a (by omega) e0 tba tsza t14a tWa y1a y2a y3a y4a ⟨_, tr1a⟩ ⟨_, tr2a⟩ ⟨_, tr3a⟩ pn hpv.out hpl.out).mono ?_)
    rintro e V6a ⟨rfl, dda, Qa, cs'a, hBIa, tb'a, tsz'a, t3a, t5a, t7a, hda, hqa, hKa⟩
    refine ⟨rfl, ?_⟩
    have hlasta : Hid (tda + 2 < V6a.heap.size) := by obtain ⟨_, hh, _⟩ := hqa; exact hh.lt
    obtain ⟨Ea, hAa, hJa, hEra, hEaa⟩ := surveyed hD hE pn hFp y5a y6a y7a ⟨wcsa, wba, wcca⟩ (fun h => (hcca.out h).1) r1a r2a r3a ⟨Nat.le_of_eq hhi0.out, hg1a.out, hg2a.out, by have := s3a.out; omega⟩ hgsa.out hSba u1a u2a u3a d4a hTa hTda d5a hBIa tb'a t3a t5a t7a hda hqa hKa
    have hcha : Hid (Below W3.heap.size W3 V6a) := chain_below d1a d2a d3a d4a hTa hTda d5a hKa
    replace hEra : Hid (∀ v, v < n → DD p' v ≤ Ea) := hEra
    replace hEaa : Hid (∃ v, v < n ∧ DD p' v = Ea) := hEaa
    clear hfa d1a s1a hcca hg1a hg2a d2a d3a s3a d4a hTa hTda d5a y1a y2a y3a y4a y5a y6a y7a wba wcca r1a r2a r3a hgsa hSba u1a u2a u3a hBIa tba tsza tWa t14a tr1a tr2a tr3a tb'a tsz'a t3a t5a t7a hda hqa hKa j2a j3a j3aa hpoa
    have bl7 : Hid (Below W.heap.size W V6a ∧ W.heap.size < V6a.heap.size) := by
      have h1 := bl6.out.2.1
      have h2 := hcha.out.size
      exact ⟨bl6.out.1.trans (hcha.out.mono (by omega)), by omega⟩
    have hlo1 : Hid (W.heap.size ≤ W3.heap.size) := Nat.le_of_lt bl6.out.2.1
    have hhi1 : Hid (hi0 ≤ V6a.heap.size) := by
      have h2 := hcha.out.size
      have h3 := hhi0.out
      show hi0 ≤ _
      omega
    have j2b := k2.later bl7.out.1
    have j3b := k3.later bl7.out.1
    have hpob := hJa.po
    clear bl6 hcha hhi0
    generalize W3.heap.size = gfa at *
    generalize V2a.heap.size = Wka at *
    go_wp2_with fail
    refine (clone_any (some ⟨b2, o2, none⟩) n c2 F V6a (by omega) (by omega) j2b).mono ?_
    rintro e V1b ⟨rfl, hfb, d1b, s1b⟩
    have j3ab := j3b.later d1b
    replace s1b : Hid (V1b.heap.size = V6a.heap.size + 1) := s1b
    go_wp2_with fail
    refine (clone_all a3 n0 c3 C V1b V6a.heap.size e0 (by have := s1b.out; omega) j3ab).mono ?_
    rintro e V2b ⟨acb, gcb, rfl, hccb, hg1b, hg2b, d2b⟩
    replace hccb : Hid (0 < n0 → acb = some ⟨gcb, 0, none⟩ ∧ BRow V2b gcb n0 C) := hccb
    replace hg1b : Hid (V6a.heap.size ≤ gcb) := hg1b
    replace hg2b : Hid (gcb < V2b.heap.size) := hg2b
    go_wp2_with fail
    refine (newWalk_any n n0 lo V6a.heap.size acb V2b (by omega)).mono ?_
    rintro e V3b ⟨rfl, hwkb, r1b, r2b, r3b, d3b, s3b⟩
    replace s3b : Hid (V3b.heap.size = V2b.heap.size + 4) := s3b
    go_upto_region 29 with fail
    go_cut [22] (fun s wx => Sv V3b wx s V2b.heap.size n n0 n0 (some ⟨Lk, 0, none⟩))
    case first =>
      clear hfb d1b d2b d3b hwkb r1b r2b r3b hpob k0 k1 k2 k3 j2b j3b j3ab hD hDx hE
      go_region_with (go_at_call 14; refine (newSurvey_any _ _ _ _ _ _ _ _ _).mono ?_; rintro e w' ⟨rfl, rfl⟩)
      all_goals go_wp2
      all_goals go_meet
      all_goals simp only [sv0, sv1, sv2, sv3, sv4, sv5]
    case rest =>
      obtain ⟨gub, gsb, gob, Sb, rfl, hgsb, hSbb, u1b, u2b, u3b, d4b⟩ := hcut
      obtain ⟨wcsb, wbb, wccb⟩ := hwkb
      have m0b := cell_later d4b (wbb.cell wccb.c0)
      have m1b := cell_later d4b (wbb.cell wccb.c1)
      have m2b := cell_later d4b (wbb.cell wccb.c2)
      replace hgsb : Hid _ := hgsb
      go_wp2_with fail
      refine ZZtree_any _ _ wc ((tree_any V2b.heap.size n n0 lo V6a.heap.size acb n0 (some ⟨Lk, 0, none⟩) wc (by omega) e0 m0b m1b m2b).mono ?_)
      rintro e V5b ⟨Tb, tdb, tcsb, rfl, hTb, hTdb, tbb, tszb, tWb, t14b, tr1b, tr2b, tr3b, d5b, s5b⟩
      refine ⟨_, rfl, ?_⟩
      obtain ⟨y1b, y2b, y3b, y4b, y5b, y6b, y7b⟩ := plant_ready hpob hhi1.out hfb d1b s1b.out hccb.out hg1b.out hg2b.out d2b d3b s3b.out d4b hTb hTdb d5b
      clear m0b m1b m2b s5b
      go_wp2_with fail
      refine ZZplant_any _ _ V5b ((plant_any Tb n n0 lo hi0 V6a.heap.size gcb tdb (tdb + 1) (tdb + 2) 0 q' acb 78 tcsb (portsTo A B n0) F C V5b (by omega) e0 tbb tszb t14b tWb y1b y2b y3b y4b ⟨_, tr1b⟩ ⟨_, tr2b⟩ ⟨_, tr3b⟩ qn hpv.out hpl.out).mono ?_)
      rintro e V6b ⟨rfl, ddb, Qb, cs'b, hBIb, tb'b, tsz'b, t3b, t5b, t7b, hdb, hqb, hKb⟩
      refine ⟨rfl, ?_⟩
      have hlastb : Hid (tdb + 2 < V6b.heap.size) := by obtain ⟨_, hh, _⟩ := hqb; exact hh.lt
      obtain ⟨Eb, hAb, hJb, hErb, hEab⟩ := surveyed hD hE qn hFq y5b y6b y7b ⟨wcsb, wbb, wccb⟩ (fun h => (hccb.out h).1) r1b r2b r3b ⟨hhi1.out, hg1b.out, hg2b.out, by have := s3b.out; omega⟩ hgsb.out hSbb u1b u2b u3b d4b hTb hTdb d5b hBIb tb'b t3b t5b t7b hdb hqb hKb
      have hchb : Hid (Below V6a.heap.size V6a V6b) := chain_below d1b d2b d3b d4b hTb hTdb d5b hKb
      replace hErb : Hid (∀ v, v < n → DD q' v ≤ Eb) := hErb
      replace hEab : Hid (∃ v, v < n ∧ DD q' v = Eb) := hEab
      clear hfb d1b s1b hccb hg1b hg2b d2b d3b s3b d4b hTb hTdb d5b y1b y2b y3b y4b y5b y6b y7b wbb wccb r1b r2b r3b hgsb hSbb u1b u2b u3b hBIb tbb tszb tWb t14b tr1b tr2b tr3b tb'b tsz'b t3b t5b t7b hdb hqb hKb j2b j3b j3ab hpob
      have hJa' := hJa.kept hAa (Keeps.of_below hchb.out) (fun _ _ _ => id) (fun _ _ _ => id)
      have bl8 : Hid (Below W.heap.size W V6b) := bl7.out.1.trans (hchb.out.mono (Nat.le_of_lt bl7.out.2))
      have ap1 := apart1 hAa hlasta.out
      have ap2 : Hid (tda + 2 < V6a.heap.size) := hlasta
      have hdm2 : Hid (G.IsDiam n DD q' Wd) := hdm.out.other hD hE pn qn hcomp
      replace ap1 : Hid _ := ap1
      clear hJa hchb
      generalize V6a.heap.size = gfb at *
      generalize V2b.heap.size = Wkb at *
      go_wp2_with fail
      refine ZZjudge_any _ _ _ V6b ((judge_any (W := Wd) (by omega) e0 hJa' hAa hD hE pn hFp hEra hEaa hdm (Int.le_refl _) hW0).mono ?_)
      rintro e X1 ⟨rfl, hJa1, hKa1⟩
      refine ⟨rfl, ?_⟩
      have hJb1 := hJb.kept hAb hKa1 ap1.out.1 (fun b h _ => ap1.out.2 b h)
      have bl9 : Hid (Below W.heap.size W X1) := bl8.out.trans (hKa1.below bl8.out.size (apart2 hAa hlo1.out))
      replace hKa1 : Hid _ := hKa1
      clear hJa' hJb
      go_wp2_with fail
      refine (dia_any Sa Wka gua gsa goa n n0 n0 (some ⟨Lk, 0, none⟩) Wd X1 hJa1.s).mono ?_
      rintro e X2 ⟨rfl, hx⟩
      obtain rfl := hx.symm
      clear hx
      go_wp2_with fail
      refine ZZjudge_any _ _ _ X1 ((judge_any (W := Wd) (by omega) e0 hJb1 hAb hD hE qn hFq hErb hEab hdm2 (Int.le_refl _) hW0).mono ?_)
      rintro e X3 ⟨rfl, hJb2, hKb⟩
      refine ⟨rfl, ?_⟩
      have hJa2 := hJa1.kept hAa hKb (fun b _ h => apart2 hAb hhi1.out b h) (fun b _ h => apart2 hAb (Nat.le_refl _) b (Nat.lt_of_le_of_lt h ap2.out))
      have bl10 : Hid (Below W.heap.size W X3) := bl9.out.trans (hKb.below bl9.out.size (apart2 hAb (Nat.le_of_lt bl7.out.2)))
      replace hKb : Hid _ := hKb
      clear hJa1 hJb1
      go_wp2_with fail
      refine (dia_any Sb Wkb gub gsb gob n n0 n0 (some ⟨Lk, 0, none⟩) Wd X3 hJb2.s).mono ?_
      rintro e X4 ⟨rfl, hx⟩
      obtain rfl := hx.symm
      clear hx
      go_wp2_with fail
      refine ZZjudge_any _ _ _ X3 ((judge_any (W := Wd) (by omega) e0 hJa2 hAa hD hE pn hFp hEra hEaa hdm hW0 (Int.le_refl _)).mono ?_)
      rintro e X5 ⟨rfl, hJa3, hKa3⟩
      refine ⟨rfl, ?_⟩
      have bl11 : Hid (Below W.heap.size W X5) := bl10.out.trans (hKa3.below bl10.out.size (apart2 hAa hlo1.out))
      replace hKa3 : Hid _ := hKa3
      clear hJa2 hJb2
      go_wp2_with fail
      refine (dia_any Sa Wka gua gsa goa n n0 n0 (some ⟨Lk, 0, none⟩) Wd X5 hJa3.s).mono ?_
      rintro e X6 ⟨rfl, hx⟩
      obtain rfl := hx.symm
      clear hx
      go_wp2_with fail
      go_ret
      exact ⟨rfl, hbW.out.1.trans (by rw [← hbW.out.2]; exact bl11.out)⟩
end Go.Proofs.Qxb6608983a
