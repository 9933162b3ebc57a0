import Derived.Test.Qxb6608983aOnce
import Derived.LaidEqlPtr
set_option linter.unusedVariables false
set_option linter.unusedSimpArgs false
namespace Go.Proofs.Qxb6608983a
open Go.ChangeShapes Go.WideShapes Go.ChangeAt Go.RowKit
open G (upd upd_same upd_other)

theorem info78 : (Try.prog.info? 78).map (fun i => i.size) = some 21 := by kernel_rfl
theorem ptr_other (w : World) {T T2 : Nat} {c c2 : Array Value} {t t2 : TypeId} (hne : T2 ≠ T) (h : Blk w T c t) (h2 : Blk w T2 c2 t2) :
    (binOp .eql 39 (.pointer (some ⟨T2, 0, none⟩)) (.pointer (some ⟨T, 0, none⟩))).run Try.prog w = .ok (.bool false) w := by
  cases hj : Try.prog.info? 78 with
  | none => have := info78; rw [hj] at this; cases this
  | some j =>
    have hs : j.size = 21 := by have := info78; rw [hj] at this; exact Option.some.inj this
    exact run_eql_ptr_other w Try.underlying39 hj (by rw [hs]; decide) (fun e => hne (by injection e)) h2 h

set_option maxHeartbeats 4000000 in
set_option maxRecDepth 100000 in
theorem walk8 (a0 a1 a2 a3 : Option Addr) (n0 c0 n1 c1 n c2 n3 c3 : Nat) (fa fb : Nat → Int) (F C : Nat → Bool) (p q l most : Int) (w : World)
    (h0 : Ints w a0 n0 fa) (h1 : Ints w a1 n1 fb) (h2 : Bools w a2 n F) (h3 : Bools w a3 n3 C) :
    Calls Try.prog 8 #[.slice a0 n0 c0, .slice a1 n1 c1, .slice a2 n c2, .slice a3 n3 c3, .int .i64 p, .int .i64 q, .int .i64 l, .int .i64 most] w fun e w' => e = .returned (.bool true) ∧ Below w.heap.size w w' := by
  have hbd : ∀ k, Below w.heap.size w (w.drewN k) := fun k => ((Keeps.refl (fun _ => False) w).drewN k).below (Nat.le_refl _) (fun _ _ => id)
  go_enter Try.func8, Try.ntmps8
  go_wp2_with fail
  refine (bytes8_any a0 a1 a2 a3 n0 c0 n1 c1 n c2 n3 c3 p q l most w).mono ?_
  rintro e w' ⟨⟨x, rfl⟩, hw⟩
  obtain rfl := hw.symm
  clear hw
  rcases x with _ | _
  · go_wp2_with fail
    go_ret
    exact ⟨rfl, Below.refl _ _⟩
  rcases Nat.lt_or_ge 4096 n0 with e0 | e0
  · have hi : (4096 : Int) < n0 := by omega
    go_wp2_with fail
    go_ret
    exact ⟨rfl, Below.refl _ _⟩
  have i0 : ¬ (4096 : Int) < n0 := by omega
  rcases Nat.lt_or_ge 4096 n1 with e1 | e1
  · have hi : (4096 : Int) < n1 := by omega
    go_wp2_with fail
    go_ret
    exact ⟨rfl, Below.refl _ _⟩
  have i1 : ¬ (4096 : Int) < n1 := by omega
  rcases Nat.lt_or_ge 4096 n with e2 | e2
  · have hi : (4096 : Int) < n := by omega
    go_wp2_with fail
    go_ret
    exact ⟨rfl, Below.refl _ _⟩
  have i2 : ¬ (4096 : Int) < n := by omega
  rcases Nat.lt_or_ge 4096 n3 with e3 | e3
  · have hi : (4096 : Int) < n3 := by omega
    go_wp2_with fail
    go_ret
    exact ⟨rfl, Below.refl _ _⟩
  have i3 : ¬ (4096 : Int) < n3 := by omega
  go_wp2_with fail
  refine (fit_any a0 a1 a3 c0 c1 c3 n n0 n1 n3 fa fb _ e0 e1 e3 e2 h0 h1).mono ?_
  rintro e w' ⟨⟨x, rfl, hx⟩, nd, rfl⟩
  rcases x with _ | _
  · go_wp2_with fail
    go_ret
    exact ⟨rfl, hbd _⟩
  obtain ⟨rfl, rfl, hfit⟩ := hx rfl
  clear hx e1 e3 i1 i3
  obtain ⟨A, hA⟩ : ∃ A : Nat → Nat, ∀ i, i < n0 → fa i = (A i : Int) := ⟨fun i => (fa i).toNat, fun i hi => by have := hfit i hi; show fa i = ((fa i).toNat : Int); omega⟩
  obtain ⟨B, hB⟩ : ∃ B : Nat → Nat, ∀ i, i < n0 → fb i = (B i : Int) := ⟨fun i => (fb i).toNat, fun i hi => by have := hfit i hi; show fb i = ((fb i).toNat : Int); omega⟩
  have hE : G.Ends n n0 A B := fun i hi => by
    have h := hfit i hi
    have ha := hA i hi
    have hb := hB i hi
    omega
  replace h0 := h0.congr hA
  replace h1 := h1.congr hB
  clear hfit hA hB fa fb
  rcases Int.lt_or_le p 0 with p0 | p0
  · go_wp2_with fail
    go_ret
    exact ⟨rfl, hbd _⟩
  obtain ⟨p', rfl⟩ : ∃ p' : Nat, p = p' := ⟨p.toNat, by omega⟩
  rcases Nat.lt_or_ge p' n with pn | pn
  case inr =>
    have hi : (n : Int) ≤ (p' : Int) := by omega
    go_wp2_with fail
    go_ret
    exact ⟨rfl, hbd _⟩
  have hpi : (p' : Int) < (n : Int) := by omega
  have hpi2 : ¬ (n : Int) ≤ (p' : Int) := by omega
  rcases h2 with h2 | ⟨b2, o2, rfl, hc2⟩
  · omega
  have cp := hc2 p' pn
  rcases hFp : F p' with _ | _
  case true =>
    rw [hFp] at cp
    go_wp2_with fail
    go_ret
    exact ⟨rfl, hbd _⟩
  rw [hFp] at cp
  rcases Int.lt_or_le q 0 with q0 | q0
  · go_wp2_with fail
    go_ret
    exact ⟨rfl, hbd _⟩
  obtain ⟨q', rfl⟩ : ∃ q' : Nat, q = q' := ⟨q.toNat, by omega⟩
  rcases Nat.lt_or_ge q' n with qn | qn
  case inr =>
    have hi : (n : Int) ≤ (q' : Int) := by omega
    go_wp2_with fail
    go_ret
    exact ⟨rfl, hbd _⟩
  have hqi : (q' : Int) < (n : Int) := by omega
  have hqi2 : ¬ (n : Int) ≤ (q' : Int) := by omega
  have cq := hc2 q' qn
  rcases hFq : F q' with _ | _
  case true =>
    rw [hFq] at cq
    go_wp2_with fail
    go_ret
    exact ⟨rfl, hbd _⟩
  rw [hFq] at cq
  rcases Int.lt_or_le l 0 with l0 | l0
  · go_wp2_with fail
    go_ret
    exact ⟨rfl, hbd _⟩
  obtain ⟨l', rfl⟩ : ∃ l' : Nat, l = l' := ⟨l.toNat, by omega⟩
  rcases Nat.lt_or_ge l' n0 with ln | ln
  case inr =>
    have hi : (n0 : Int) ≤ (l' : Int) := by omega
    go_wp2_with fail
    go_ret
    exact ⟨rfl, hbd _⟩
  have hli : (l' : Int) < (n0 : Int) := by omega
  have hli2 : ¬ (n0 : Int) ≤ (l' : Int) := by omega
  rcases h3 with h3 | ⟨b3, o3, rfl, hc3⟩
  · omega
  have cl := hc3 l' ln
  rcases hCl : C l' with _ | _
  case false =>
    rw [hCl] at cl
    go_wp2_with fail
    go_ret
    exact ⟨rfl, hbd _⟩
  rw [hCl] at cl
  rcases Int.lt_or_le most 0 with m0 | m0
  · go_wp2_with fail
    go_ret
    exact ⟨rfl, hbd _⟩
  have k2 : Bools (w.drewN nd) (some ⟨b2, o2, none⟩) n F := .inr ⟨b2, o2, rfl, hc2⟩
  have k3 : Bools (w.drewN nd) (some ⟨b3, o3, none⟩) n0 C := .inr ⟨b3, o3, rfl, hc3⟩
  have k0 : Ints (w.drewN nd) a0 n0 (fun i => (A i : Int)) := h0
  have k1 : Ints (w.drewN nd) a1 n0 (fun i => (B i : Int)) := h1
  have hbW : Hid (Below w.heap.size w (w.drewN nd) ∧ (w.drewN nd).heap.size = w.heap.size) := ⟨hbd _, rfl⟩
  go_wp2_with fail
  clear cp cq cl hc2 hc3 h0 h1 hbd
  generalize w.drewN nd = W at *
  refine (clone_any (some ⟨b2, o2, none⟩) n c2 F W e2 (by omega) k2).mono ?_
  rintro e w1 ⟨rfl, hf, b1, s1⟩
  have k3a := k3.later b1
  replace s1 : Hid (w1.heap.size = W.heap.size + 1) := s1
  go_wp2_with fail
  refine (clone_any (some ⟨b3, o3, none⟩) n0 c3 C w1 e0 (by omega) k3a).mono ?_
  rintro e w2 ⟨rfl, hc, b2', s2⟩
  replace s2 : Hid (w2.heap.size = w1.heap.size + 1) := s2
  have k0a := (k0.later b1).later b2'
  have k1a := (k1.later b1).later b2'
  go_wp2_with fail
  refine (ports_any a0 a1 c0 c1 n n0 A B w2 e0 e2 k0a k1a hE).mono ?_
  rintro e w3 ⟨rfl, hp, b3', s3⟩
  replace s3 : Hid (w2.heap.size + 1 ≤ w3.heap.size) := s3
  go_wp2_with fail
  refine (newWalk_any n n0 w2.heap.size W.heap.size w1.heap.size w3 e2).mono ?_
  rintro e w4 ⟨rfl, hwk, _, _, _, b4, s4⟩
  replace s4 : Hid (w4.heap.size = w3.heap.size + 4) := s4
  go_wp2_with fail
  refine (minus_any n w4 e2).mono ?_
  rintro e w5 ⟨rfl, ho, b5, s5⟩
  replace s5 : Hid (w5.heap.size = w4.heap.size + 1) := s5
  have k0b := ((k0a.later b3').later b4).later b5
  have k1b := ((k1a.later b3').later b4).later b5
  go_wp2_with fail
  refine (links_any a0 a1 c0 c1 n0 _ _ w5 e0 k0b k1b).mono ?_
  rintro e w6 ⟨rfl, b6, s6⟩
  replace s6 : Hid (w6.heap.size = w5.heap.size + 1) := s6
  go_wp2_with fail
  refine (newForest_any w3.heap.size w4.heap.size n n0 n0 (some ⟨w5.heap.size, 0, none⟩) most w6).mono ?_
  rintro e w7 ⟨rfl, hw7⟩
  obtain ⟨hAp, hFS, hbel⟩ := setup_state (most := most) hf b1 s1.out hc b2' s2.out hp b3' s3.out hwk b4 s4.out ho b5 s5.out b6 s6.out
  have hge : Hid (W.heap.size ≤ w6.heap.size ∧ W.heap.size ≤ w4.heap.size ∧ W.heap.size ≤ w1.heap.size) := by
    have h1 := s1.out; have h2 := s2.out; have h3 := s3.out; have h4 := s4.out; have h5 := s5.out; have h6 := s6.out
    exact ⟨by omega, by omega, by omega⟩
  have hkk : Hid (Keeps (fun _ => False) W w7) := by rw [hw7]; exact Keeps.of_below hbel
  rw [← hw7] at hFS hbel
  replace hbel : Hid (Below W.heap.size W w7) := hbel
  clear hw7 hf hc hp hwk ho b1 b2' b3' b4 b5 b6 k3a k0a k1a k0b k1b
  generalize w6.heap.size = Fo at *
  generalize w5.heap.size = Lk at *
  generalize w4.heap.size = gof at *
  generalize w3.heap.size = Wk at *
  generalize w2.heap.size = lo at *
  generalize w1.heap.size = gc at *
  go_wp2_with fail
  refine (keep8a Fo Wk n n0 lo Wk W.heap.size gc gof (Fo + 1) n0 p' l' W.heap.size most (some ⟨Lk, 0, none⟩) A B F C w7 e2 e0 hAp hFS hE pn ln hCl hFp m0 hge.out hbel.out.size).mono ?_
  rintro e w7a ⟨v1, rfl, hM8⟩
  go_wp2_with fail
  refine (keep8b Fo Wk n n0 lo Wk W.heap.size gc gof (Fo + 1) n0 p' q' l' W.heap.size most v1 (some ⟨Lk, 0, none⟩) A B F C w7 w7a e2 e0 hAp hFS hE qn ln hCl hFq m0 hge.out hbel.out.size hM8).mono ?_
  rintro e w8 ⟨v2, rfl, kt, ofn, hA8⟩
  have hb8 : Below W.heap.size W w8 := hbel.out.trans hA8.below
  have j0 := k0.later hb8
  have j1 := k1.later hb8
  have j2 := k2.later hb8
  have j3 := k3.later hb8
  have hbw8 : Hid (Below w.heap.size w w8) := hbW.out.1.trans (by rw [← hbW.out.2]; exact hb8)
  obtain ⟨csF, hFo, hk4⟩ := hA8.fo
  clear hb8 k0 k1 k2 k3 hge hkk hbel hbW hAp hFS hM8 s1 s2 s3 s4 s5 s6
  generalize W.heap.size = gf at *
  go_wp2_with fail
  refine (kept_any Fo csF kt w8 hFo hk4).mono ?_
  rintro e w9 ⟨rfl, hw9⟩
  obtain rfl := hw9.symm
  clear hw9 hFo hk4
  go_wp2_with fail
  refine (same_any _ _ n n c2 F F w8 e2 hA8.f.bools j2 (fun _ _ => rfl)).mono ?_
  rintro e w10 ⟨rfl, nd1, rfl⟩
  go_wp2_with fail
  refine (same_any _ _ n0 n0 c3 C C (w8.drewN nd1) e0 hA8.c.bools j3 (fun _ _ => rfl)).mono ?_
  rintro e w11 ⟨rfl, nd2, rfl⟩
  rcases hA8.tree with ⟨rfl, rfl, rfl, rfl⟩ | ⟨rfl, rfl, rfl, T, gd, gq, rfl, hT1⟩ | ⟨h2, rfl, T, gd, gq, T2, gd2, gq2, hTT, rfl, hT1, rfl, hT2⟩
  · have hT1 := trivial
    have hT2 := trivial
    go_wp2_with fail
    go_loopw [27] (fun i wr => ∃ k : Nat, k ≤ n ∧ i = .int .i64 k ∧ ∃ nd, wr = w8.drewN nd) (fun i _ => n - (intOf i).toNat)
    case atStart => exact ⟨0, Nat.zero_le _, rfl, _, rfl⟩
    case round =>
      obtain ⟨k, hk, rfl, nd, rfl⟩ := hrel
      by_cases hlt : k < n
      · have e1 := hA8.of.cell hlt
        rw [hA8.ofis k hlt] at e1
        have hi1 : (k : Int) < (n : Int) := by omega
        clear hA8 hT1 hT2
        rw [if_neg (by omega), if_neg (by omega)] at e1
        go_wp2_with fail
        exact ⟨⟨k + 1, by omega, by simp, _, rfl⟩, by simp [intOf]; omega⟩
      · obtain rfl : k = n := by omega
        clear hA8
        go_wp2_with fail
        go_ret
        exact ⟨rfl, below_drewN hbw8.out _⟩
  · have hT2 := trivial
    have h1 : (1 : Int) ≤ 1 := by omega
    go_wp2_with fail
    go_loopw [27] (fun i wr => ∃ k : Nat, k ≤ n ∧ i = .int .i64 k ∧ ∃ nd, wr = w8.drewN nd) (fun i _ => n - (intOf i).toNat)
    case atStart => exact ⟨0, Nat.zero_le _, rfl, _, rfl⟩
    case round =>
      obtain ⟨k, hk, rfl, nd, rfl⟩ := hrel
      by_cases hlt : k < n
      · have e1 := hA8.of.cell hlt
        rw [hA8.ofis k hlt] at e1
        have hi1 : (k : Int) < (n : Int) := by omega
        clear hA8 hT1 hT2
        rw [if_neg (by omega)] at e1
        by_cases hkp : k = p'
        · subst hkp
          rw [if_pos ⟨h1, rfl⟩] at e1
          go_wp2_with fail
          exact ⟨⟨k + 1, by omega, by simp, _, rfl⟩, by simp [intOf]; omega⟩
        · rw [if_neg (fun h => hkp h.2)] at e1
          have hkp' : ¬ (k : Int) = (p' : Int) := by omega
          go_wp2_with fail
          exact ⟨⟨k + 1, by omega, by simp, _, rfl⟩, by simp [intOf]; omega⟩
      · obtain rfl : k = n := by omega
        clear hA8
        obtain ⟨cs1, D1, Qf1, lq1, ec1, hB1, cs31, cs51, cs71, hd1, hq1, q11, q21, q01, hmax1, hat1, hD1⟩ := hT1
        go_wp2_with fail
        refine (treeDist_any T cs1 _ (w8.drewN nd) hB1 cs31).mono ?_
        rintro e w12 ⟨rfl, hw9⟩
        obtain rfl := hw9.symm
        clear hw9
        go_wp2_with fail
        refine (treeEcc_any T cs1 _ (w8.drewN nd) hB1 cs71).mono ?_
        rintro e w12 ⟨rfl, hw9⟩
        obtain rfl := hw9.symm
        clear hw9
        go_wp2_with fail
        refine (treeQueue_any T cs1 _ (w8.drewN nd) hB1 cs51).mono ?_
        rintro e w12 ⟨rfl, hw9⟩
        obtain rfl := hw9.symm
        clear hw9
        go_wp2_with fail
        refine (holds_any _ _ a0 a1 _ _ _ _ c0 c1 c2 c3 k n0 lq1 p' A B F C l' D1 Qf1 ec1 (w8.drewN nd) e0 e2 hd1.ints (hq1.part q21) q11 (by omega) q01 hmax1 hat1 j0 j1 j2 j3 hE hD1).mono ?_
        rintro e w13 ⟨rfl, hb12⟩
        have hfin : Hid (Below w.heap.size w w13) := (below_drewN hbw8.out nd).trans (hb12.mono hbw8.out.size)
        go_wp2_with fail
        go_ret
        exact ⟨rfl, hfin.out⟩
  · have h1 : (1 : Int) ≤ most := by omega
    have hTT' : ¬ T = T2 := fun e => hTT e.symm
    by_cases hm2 : most = 2
    · subst hm2
      go_wp2_with fail
      go_loopw [27] (fun i wr => ∃ k : Nat, k ≤ n ∧ i = .int .i64 k ∧ ∃ nd, wr = w8.drewN nd) (fun i _ => n - (intOf i).toNat)
      case atStart => exact ⟨0, Nat.zero_le _, rfl, _, rfl⟩
      case round =>
        obtain ⟨k, hk, rfl, nd, rfl⟩ := hrel
        by_cases hlt : k < n
        · have e1 := hA8.of.cell hlt
          rw [hA8.ofis k hlt] at e1
          have hi1 : (k : Int) < (n : Int) := by omega
          clear hA8 hT1 hT2
          by_cases hkq : k = q'
          · subst hkq
            rw [if_pos ⟨h2, rfl⟩] at e1
            by_cases hkp : k = p'
            · subst hkp
              go_wp2_with fail
              exact ⟨⟨k + 1, by omega, by simp, _, rfl⟩, by simp [intOf]; omega⟩
            · have hkp' : ¬ (k : Int) = (p' : Int) := by omega
              go_wp2_with fail
              exact ⟨⟨k + 1, by omega, by simp, _, rfl⟩, by simp [intOf]; omega⟩
          · rw [if_neg (fun h => hkq h.2)] at e1
            have hkq' : ¬ (k : Int) = (q' : Int) := by omega
            by_cases hkp : k = p'
            · subst hkp
              rw [if_pos ⟨h1, rfl⟩] at e1
              go_wp2_with fail
              exact ⟨⟨k + 1, by omega, by simp, _, rfl⟩, by simp [intOf]; omega⟩
            · rw [if_neg (fun h => hkp h.2)] at e1
              have hkp' : ¬ (k : Int) = (p' : Int) := by omega
              go_wp2_with fail
              exact ⟨⟨k + 1, by omega, by simp, _, rfl⟩, by simp [intOf]; omega⟩
        · obtain rfl : k = n := by omega
          clear hA8
          obtain ⟨cs1, D1, Qf1, lq1, ec1, hB1, cs31, cs51, cs71, hd1, hq1, q11, q21, q01, hmax1, hat1, hD1⟩ := hT1
          go_wp2_with fail
          refine (treeDist_any T cs1 _ (w8.drewN nd) hB1 cs31).mono ?_
          rintro e w12 ⟨rfl, hw9⟩
          obtain rfl := hw9.symm
          clear hw9
          go_wp2_with fail
          refine (treeEcc_any T cs1 _ (w8.drewN nd) hB1 cs71).mono ?_
          rintro e w12 ⟨rfl, hw9⟩
          obtain rfl := hw9.symm
          clear hw9
          go_wp2_with fail
          refine (treeQueue_any T cs1 _ (w8.drewN nd) hB1 cs51).mono ?_
          rintro e w12 ⟨rfl, hw9⟩
          obtain rfl := hw9.symm
          clear hw9
          go_wp2_with fail
          refine (holds_any _ _ a0 a1 _ _ _ _ c0 c1 c2 c3 k n0 lq1 p' A B F C l' D1 Qf1 ec1 (w8.drewN nd) e0 e2 hd1.ints (hq1.part q21) q11 (by omega) q01 hmax1 hat1 j0 j1 j2 j3 hE hD1).mono ?_
          rintro e w13 ⟨rfl, hb12⟩
          have hfin : Hid (Below w.heap.size w w13) := (below_drewN hbw8.out nd).trans (hb12.mono hbw8.out.size)
          have i0 := (j0.drewN nd).later hb12
          have i1 := (j1.drewN nd).later hb12
          have i2 := (j2.drewN nd).later hb12
          have i3 := (j3.drewN nd).later hb12
          replace hT2 := (hT2.kept ((Keeps.refl (fun _ => False) w8).drewN nd) id id id).kept (Keeps.of_below hb12) id id id
          have hB13 := (hB1.drewN nd).later hb12
          replace hb12 : Hid (w.heap.size ≤ w13.heap.size) := hfin.out.size
          clear hB1 cs31 cs51 cs71 hd1 hq1 q11 q21 q01 hmax1 hat1 hD1 j0 j1 j2 j3
          obtain ⟨cs2, D2, Qf2, lq2, ec2, hB2, cs32, cs52, cs72, hd2, hq2, q12, q22, q02, hmax2, hat2, hD2⟩ := hT2
          have hptr := ptr_other w13 hTT hB13 hB2
          go_wp2_with fail
          clear hptr hB13
          refine (treeDist_any T2 cs2 _ w13 hB2 cs32).mono ?_
          rintro e w12 ⟨rfl, hw9⟩
          obtain rfl := hw9.symm
          clear hw9
          go_wp2_with fail
          refine (treeEcc_any T2 cs2 _ w13 hB2 cs72).mono ?_
          rintro e w12 ⟨rfl, hw9⟩
          obtain rfl := hw9.symm
          clear hw9
          go_wp2_with fail
          refine (treeQueue_any T2 cs2 _ w13 hB2 cs52).mono ?_
          rintro e w12 ⟨rfl, hw9⟩
          obtain rfl := hw9.symm
          clear hw9
          go_wp2_with fail
          refine (holds_any _ _ a0 a1 _ _ _ _ c0 c1 c2 c3 k n0 lq2 q' A B F C l' D2 Qf2 ec2 w13 e0 e2 hd2.ints (hq2.part q22) q12 (by omega) q02 hmax2 hat2 i0 i1 i2 i3 hE hD2).mono ?_
          rintro e w14 ⟨rfl, hb14⟩
          replace hfin : Hid (Below w.heap.size w w14) := hfin.out.trans (hb14.mono hb12.out)
          go_wp2_with fail
          go_ret
          exact ⟨rfl, hfin.out⟩
    · have hm3 : (2 : Int) < most := by omega
      go_wp2_with fail
      go_loopw [27] (fun i wr => ∃ k : Nat, k ≤ n ∧ i = .int .i64 k ∧ ∃ nd, wr = w8.drewN nd) (fun i _ => n - (intOf i).toNat)
      case atStart => exact ⟨0, Nat.zero_le _, rfl, _, rfl⟩
      case round =>
        obtain ⟨k, hk, rfl, nd, rfl⟩ := hrel
        by_cases hlt : k < n
        · have e1 := hA8.of.cell hlt
          rw [hA8.ofis k hlt] at e1
          have hi1 : (k : Int) < (n : Int) := by omega
          clear hA8 hT1 hT2
          by_cases hkq : k = q'
          · subst hkq
            rw [if_pos ⟨h2, rfl⟩] at e1
            by_cases hkp : k = p'
            · subst hkp
              go_wp2_with fail
              exact ⟨⟨k + 1, by omega, by simp, _, rfl⟩, by simp [intOf]; omega⟩
            · have hkp' : ¬ (k : Int) = (p' : Int) := by omega
              go_wp2_with fail
              exact ⟨⟨k + 1, by omega, by simp, _, rfl⟩, by simp [intOf]; omega⟩
          · rw [if_neg (fun h => hkq h.2)] at e1
            have hkq' : ¬ (k : Int) = (q' : Int) := by omega
            by_cases hkp : k = p'
            · subst hkp
              rw [if_pos ⟨h1, rfl⟩] at e1
              go_wp2_with fail
              exact ⟨⟨k + 1, by omega, by simp, _, rfl⟩, by simp [intOf]; omega⟩
            · rw [if_neg (fun h => hkp h.2)] at e1
              have hkp' : ¬ (k : Int) = (p' : Int) := by omega
              go_wp2_with fail
              exact ⟨⟨k + 1, by omega, by simp, _, rfl⟩, by simp [intOf]; omega⟩
        · obtain rfl : k = n := by omega
          clear hA8
          obtain ⟨cs1, D1, Qf1, lq1, ec1, hB1, cs31, cs51, cs71, hd1, hq1, q11, q21, q01, hmax1, hat1, hD1⟩ := hT1
          go_wp2_with fail
          refine (treeDist_any T cs1 _ (w8.drewN nd) hB1 cs31).mono ?_
          rintro e w12 ⟨rfl, hw9⟩
          obtain rfl := hw9.symm
          clear hw9
          go_wp2_with fail
          refine (treeEcc_any T cs1 _ (w8.drewN nd) hB1 cs71).mono ?_
          rintro e w12 ⟨rfl, hw9⟩
          obtain rfl := hw9.symm
          clear hw9
          go_wp2_with fail
          refine (treeQueue_any T cs1 _ (w8.drewN nd) hB1 cs51).mono ?_
          rintro e w12 ⟨rfl, hw9⟩
          obtain rfl := hw9.symm
          clear hw9
          go_wp2_with fail
          refine (holds_any _ _ a0 a1 _ _ _ _ c0 c1 c2 c3 k n0 lq1 p' A B F C l' D1 Qf1 ec1 (w8.drewN nd) e0 e2 hd1.ints (hq1.part q21) q11 (by omega) q01 hmax1 hat1 j0 j1 j2 j3 hE hD1).mono ?_
          rintro e w13 ⟨rfl, hb12⟩
          have hfin : Hid (Below w.heap.size w w13) := (below_drewN hbw8.out nd).trans (hb12.mono hbw8.out.size)
          have i0 := (j0.drewN nd).later hb12
          have i1 := (j1.drewN nd).later hb12
          have i2 := (j2.drewN nd).later hb12
          have i3 := (j3.drewN nd).later hb12
          replace hT2 := (hT2.kept ((Keeps.refl (fun _ => False) w8).drewN nd) id id id).kept (Keeps.of_below hb12) id id id
          have hB13 := (hB1.drewN nd).later hb12
          replace hb12 : Hid (w.heap.size ≤ w13.heap.size) := hfin.out.size
          clear hB1 cs31 cs51 cs71 hd1 hq1 q11 q21 q01 hmax1 hat1 hD1 j0 j1 j2 j3
          obtain ⟨cs2, D2, Qf2, lq2, ec2, hB2, cs32, cs52, cs72, hd2, hq2, q12, q22, q02, hmax2, hat2, hD2⟩ := hT2
          have hptr := ptr_other w13 hTT hB13 hB2
          go_wp2_with fail
          clear hptr hB13
          refine (treeDist_any T2 cs2 _ w13 hB2 cs32).mono ?_
          rintro e w12 ⟨rfl, hw9⟩
          obtain rfl := hw9.symm
          clear hw9
          go_wp2_with fail
          refine (treeEcc_any T2 cs2 _ w13 hB2 cs72).mono ?_
          rintro e w12 ⟨rfl, hw9⟩
          obtain rfl := hw9.symm
          clear hw9
          go_wp2_with fail
          refine (treeQueue_any T2 cs2 _ w13 hB2 cs52).mono ?_
          rintro e w12 ⟨rfl, hw9⟩
          obtain rfl := hw9.symm
          clear hw9
          go_wp2_with fail
          refine (holds_any _ _ a0 a1 _ _ _ _ c0 c1 c2 c3 k n0 lq2 q' A B F C l' D2 Qf2 ec2 w13 e0 e2 hd2.ints (hq2.part q22) q12 (by omega) q02 hmax2 hat2 i0 i1 i2 i3 hE hD2).mono ?_
          rintro e w14 ⟨rfl, hb14⟩
          replace hfin : Hid (Below w.heap.size w w14) := hfin.out.trans (hb14.mono hb12.out)
          go_wp2_with fail
          go_ret
          exact ⟨rfl, hfin.out⟩
end Go.Proofs.Qxb6608983a
