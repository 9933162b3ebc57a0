import Derived.Test.Qxb6608983aSur
import Derived.Test.Qxb6608983aCount
import Derived.Deep.DeepCutAuto
import Derived.Deep.Light
set_option linter.unusedVariables false
set_option linter.unusedSimpArgs false
namespace Go.Proofs.Qxb6608983a
open Go.ChangeShapes Go.WideShapes Go.ChangeAt Go.RowKit
open G (upd upd_same upd_other)

set_option maxHeartbeats 4000000 in
set_option maxRecDepth 100000 in
/-- farthestFirst: a row of just the survivors -/
theorem far_any (S Wk gu gs go n m cl td E : Nat) (al : Option Addr) (dia : Int) (D : Nat → Int) (w : World) (hn : n ≤ 4096) (hB : Blk w S (sur Wk gu gs go n m cl al dia) 68) (hD : IRow w td n D) (hlo : ∀ p, p < n → -1 ≤ D p) (hE : ∀ p, p < n → D p ≤ E) (hEn : E < n)
    (r1 : ∃ f, IRow w gs n f) (r2 : ∃ f, IRow w go (n + 2) f) (n1 : S ≠ gs) (n2 : S ≠ go) (n3 : td ≠ gs) (n4 : td ≠ go) (n5 : gs ≠ go) :
    Calls Try.prog 51 #[.pointer (some ⟨S, 0, none⟩), .slice (some ⟨td, 0, none⟩) n n, .int .i64 E] w fun e w' => ∃ N, e = .returned (.slice (some ⟨gs, 0, none⟩) N n) ∧ N ≤ n ∧
      (∃ h, IRow w' gs n h ∧ (∀ x, x < N → ∃ q : Nat, q < n ∧ h x = q ∧ 0 ≤ D q) ∧ ∀ q, q < n → 0 ≤ D q → ∃ x, x < N ∧ h x = q) ∧ (∃ f, IRow w' go (n + 2) f) ∧ Keeps (fun b => b = gs ∨ b = go) w w' := by
  obtain ⟨f0, cur, hcb, hcs, hcc⟩ := r2
  obtain ⟨E2, hE2⟩ : ∃ E2, Hid (E2 = E + 2) := ⟨_, rfl⟩
  have hE2' := hE2.out
  have hw2 : IntKind.i64.wrap ((E : Int) + 2) = (E2 : Int) := by rw [wrap_small _ (by omega) (by omega)]; omega
  have hcl := fun ty => run_clear_ints ty w go E2 (n + 2) cur hcb (by omega) (by omega)
  obtain ⟨hrow, hK⟩ := irow_cleared hcb hcs hcc (k := E2) (by omega)
  have hb1 : (E2 : Int) ≤ (n : Int) + 2 := by omega
  have hb2 : E2 ≤ n + 2 := by omega
  clear hE2'
  have s10 := sur10 hB
  replace hrow : Hid _ := hrow
  replace hK : Hid _ := hK
  go_enter Try.func51, Try.ntmps51
  go_upto_region 2 with fail
  have hB1 := hB.kept hK.out n2
  have hD1 := hD.kept hK.out n4
  obtain ⟨fs, r1⟩ := r1
  have hs1 := r1.kept hK.out n5
  have hc1 : Hid (G.Cnt1 D E 0 (fun i => if i < E2 then 0 else f0 i)) := by
    have := hE2.out
    exact ⟨by show (if 0 < E2 then (0 : Int) else f0 0) = 0; rw [if_pos (by omega)], fun j hj => by show (if j + 1 < E2 then (0 : Int) else f0 (j + 1)) = _; rw [if_pos (by omega)]; rfl⟩
  have hKw : Keeps (fun b => b = gs ∨ b = go) w _ := hK.out.mono (fun b _ h => .inr h)
  replace hrow := hrow.out
  clear hK hcl s10 hcb hcc hB hD r1
  generalize (w.setRow go (List.replicate E2 (Value.int IntKind.i64 0) ++ List.drop E2 cur.toList).toArray) = W0 at *
  generalize (fun i => if i < E2 then 0 else f0 i) = f1 at *
  have n6 : go ≠ S := Ne.symm n2
  have n7 : gs ≠ S := Ne.symm n1
  go_wp2_with fail
  go_loopw [8, 21] (fun _ i wr => ∃ k : Nat, k ≤ n ∧ i = .int .i64 k ∧ (∃ f, IRow wr go (n + 2) f ∧ Hid (G.Cnt1 D E k f)) ∧ Keeps (fun b => b = go) W0 wr) (fun _ i _ => n - (intOf i).toNat)
  case atStart => exact ⟨0, Nat.zero_le _, rfl, ⟨_, hrow, hc1⟩, Keeps.refl _ _⟩
  case round =>
    clear hrow hc1
    obtain ⟨k, hk, rfl, ⟨f, hrow, hc⟩, hK⟩ := hrel
    have hBr := hB1.kept hK n2
    have hDr := hD1.kept hK n4
    have s10 := sur10 hBr
    by_cases hkn : k < n
    · have e1 := hDr.cell hkn
      have hki : (k : Int) < (n : Int) := by omega
      rcases Int.lt_or_le (D k) 0 with hneg | hpos
      · have hs : Hid _ := hc.out.skip hneg
        go_wp2
        go_roundw
        case rel => exact ⟨k + 1, by omega, by go_num, ⟨_, hrow, hs⟩, hK⟩
        case measure => simp [intOf]; omega
      · obtain ⟨j, hj⟩ : ∃ j : Nat, Hid (D k + (j : Int) = E) := ⟨((E : Int) - D k).toNat, by have := hE k hkn; show D k + _ = (E : Int); omega⟩
        obtain ⟨j1, hj1⟩ : ∃ j1 : Nat, Hid (j1 = j + 1) := ⟨_, rfl⟩
        have hjE : j ≤ E := by have := hj.out; omega
        have hcv := hc.out.2 j hjE
        have hcl : G.cnt D E j k ≤ n := by
          have h1 := G.sums_le (D := D) (E := E) (j + 1) k
          have h2 : G.sums D E k (j + 1) = G.sums D E k j + G.cnt D E j k := rfl
          omega
        have hst : Hid _ := hc.out.step hjE ⟨hpos, hj.out⟩
        rw [← hj1.out] at hcv hst
        have w1 : IntKind.i64.wrap ((E : Int) - D k) = (j : Int) := by have := hj.out; rw [wrap_small _ (by omega) (by omega)]; omega
        have w2 : IntKind.i64.wrap ((j : Int) + 1) = (j1 : Int) := by have := hj1.out; rw [wrap_small _ (by omega) (by omega)]; omega
        have w3 : IntKind.i64.wrap (f j1 + 1) = f j1 + 1 := wrap_small _ (by omega) (by omega)
        have hj1l : j1 < n + 2 := by have := hj1.out; omega
        have hj1i : (j1 : Int) < (n : Int) + 2 := by omega
        have e2 := hrow.cell hj1l
        have e3 := hrow.free j1
        have hrow2 : Hid _ := hrow.set hj1l (f j1 + 1)
        have hK2 : Hid _ := hK.setCell (p := ⟨go, j1, none⟩) (fun _ => rfl) (.int .i64 (f j1 + 1))
        clear hcv
        go_wp2
        go_roundw
        case rel => exact ⟨k + 1, by omega, by go_num, ⟨_, hrow2.out, hst⟩, hK2.out⟩
        case measure => simp [intOf]; omega
    · obtain rfl : n = k := by omega
      have hc2 : Hid _ := hc.out.two
      clear hc
      go_wp2
      go_loopw [9] (fun i wr => ∃ d : Nat, 1 ≤ d ∧ d ≤ E2 ∧ i = .int .i64 d ∧ (∃ f, IRow wr go (n + 2) f ∧ Hid (G.Cnt2 D E n d f)) ∧ Keeps (fun b => b = go) W0 wr) (fun i _ => E2 - (intOf i).toNat)
      case atStart => exact ⟨1, Nat.le_refl _, by have := hE2.out; omega, rfl, ⟨_, hrow, hc2⟩, hK⟩
      case round =>
        clear hrow hc2 hK s10 hBr hDr
        obtain ⟨d, hd1, hd2, rfl, ⟨f, hrow, hc⟩, hK⟩ := hrel
        have hBr := hB1.kept hK n2
        have hDr := hD1.kept hK n4
        have s10 := sur10 hBr
        by_cases hdn : d < E2
        · obtain ⟨d', hd'⟩ : ∃ d', Hid (d' = d - 1) := ⟨_, rfl⟩
          have hdE : d ≤ E + 1 := by have := hE2.out; omega
          have hst : Hid _ := hc.out.step hd1 hdE
          rw [← hd'.out] at hst
          have v1 := hc.out.2 d (Nat.le_refl _) hdE
          have v2 := hc.out.1 d' (by have := hd'.out; omega)
          have b1 : G.cnt D E (d - 1) n ≤ n := by
            have h1 := G.sums_le (D := D) (E := E) (d - 1 + 1) n
            have h2 : G.sums D E n (d - 1 + 1) = G.sums D E n (d - 1) + G.cnt D E (d - 1) n := rfl
            omega
          have b2 := G.sums_le (D := D) (E := E) d' n
          have w1 : IntKind.i64.wrap ((d : Int) - 1) = (d' : Int) := by have := hd'.out; rw [wrap_small _ (by omega) (by omega)]; omega
          have w2 : IntKind.i64.wrap (f d + f d') = f d + f d' := wrap_small _ (by omega) (by omega)
          have hdl : d < n + 2 := by omega
          have hdl' : d' < n + 2 := by have := hd'.out; omega
          have hdi : (d : Int) < (n : Int) + 2 := by omega
          have hdi' : (d' : Int) < (n : Int) + 2 := by omega
          have hdE2 : (d : Int) < (E2 : Int) := by omega
          have e1 := hrow.cell hdl
          have e2 := hrow.cell hdl'
          have e3 := hrow.free d
          have hrow2 := hrow.set hdl (f d + f d')
          have hK2 := hK.setCell (p := ⟨go, d, none⟩) (fun _ => rfl) (.int .i64 (f d + f d'))
          clear v1 v2 b1 b2
          go_upto_region 11 with fail
          go_region_law (fail)
          all_goals go_wp2_with fail
          all_goals go_roundw
          all_goals first
            | exact ⟨d + 1, by omega, by omega, by go_num, ⟨_, hrow2, hst⟩, hK2.drewN 1⟩
            | (simp [intOf]; omega)
        · obtain rfl : E2 = d := by omega
          have hc3 : Hid (G.Cnt3 D E n 0 f fs) := by have := hc.out; rw [hE2.out] at this; exact this.three
          clear hc
          have hs2 := hs1.kept hK n5
          go_wp2
          go_loopw [10, 11, 65] (fun _ _ i wr => ∃ p : Nat, p ≤ n ∧ i = .int .i64 p ∧ (∃ f h, IRow wr go (n + 2) f ∧ IRow wr gs n h ∧ Hid (G.Cnt3 D E n p f h)) ∧ Keeps (fun b => b = gs ∨ b = go) W0 wr) (fun _ _ i _ => n - (intOf i).toNat)
          case atStart => exact ⟨0, Nat.zero_le _, rfl, ⟨_, _, hrow, hs2, hc3⟩, hK.mono (fun b _ h => .inr h)⟩
          case round =>
            clear hrow hc3 hK s10 hBr hDr hs2
            obtain ⟨p, hp, rfl, ⟨f, h, hrow, hsr, hc⟩, hK⟩ := hrel
            have hBr := hB1.kept hK (fun h => h.elim n1 n2)
            have hDr := hD1.kept hK (fun h => h.elim n3 n4)
            have s9 := sur9 hBr
            have s10 := sur10 hBr
            by_cases hpn : p < n
            · have e1 := hDr.cell hpn
              have hpi : (p : Int) < (n : Int) := by omega
              rcases Int.lt_or_le (D p) 0 with hneg | hpos
              · have hs : Hid _ := hc.out.skip hneg
                go_wp2
                go_roundw
                case rel => exact ⟨p + 1, by omega, by go_num, ⟨_, _, hrow, hsr, hs⟩, hK⟩
                case measure => simp [intOf]; omega
              · obtain ⟨j, hj⟩ : ∃ j : Nat, Hid (D p + (j : Int) = E) := ⟨((E : Int) - D p).toNat, by have := hE p hpn; show D p + _ = (E : Int); omega⟩
                have hjE : j ≤ E := by have := hj.out; omega
                have ha : G.At D E j p := ⟨hpos, hj.out⟩
                obtain ⟨v1, v2⟩ := hc.out.pos hpn hjE ha
                have hst : Hid _ := hc.out.step hpn hjE ha rfl
                generalize G.sums D E n j + G.cnt D E j p = x at *
                have w1 : IntKind.i64.wrap ((E : Int) - D p) = (j : Int) := by have := hj.out; rw [wrap_small _ (by omega) (by omega)]; omega
                have w2 : IntKind.i64.wrap ((x : Int) + 1) = (x : Int) + 1 := wrap_small _ (by omega) (by omega)
                have hjl : j < n + 2 := by omega
                have hji : (j : Int) < (n : Int) + 2 := by omega
                have hxi : (x : Int) < (n : Int) := by omega
                have e2 := hrow.cell hjl
                rw [v1] at e2 hst
                have e3 := hrow.free j
                have e4 := hsr.cell v2
                have e5 := hsr.free x
                have hsr2 := hsr.set v2 (p : Int)
                have hrow2 := hrow.other (a := ⟨gs, x, none⟩) (Ne.symm n5) (.int .i64 (p : Int))
                have hBr2 := hBr.other (a := ⟨gs, x, none⟩) n1 (.int .i64 (p : Int))
                have hK2 := hK.setCell (p := ⟨gs, x, none⟩) (fun _ => .inl rfl) (.int .i64 (p : Int))
                clear v1 ha
                go_upto_region 16 with fail
                go_region_held3 (fun w' => w'.cell? ⟨S, 9, none⟩ = some (.slice (some ⟨gs, 0, none⟩) n n) ∧ w'.cell? ⟨S, 10, none⟩ = some (.slice (some ⟨go, 0, none⟩) (n + 2) (n + 2)) ∧ w'.cell? ⟨go, j, none⟩ = some (.int .i64 x)) (go_keep) (fail)
                have hrow3 : IRow (wr.setCell ⟨gs, x, none⟩ (.int .i64 (p : Int))).drew go (n + 2) f := hrow2
                have hsr3 : IRow (wr.setCell ⟨gs, x, none⟩ (.int .i64 (p : Int))).drew gs n (upd h x p) := hsr2
                have hBr3 : Blk (wr.setCell ⟨gs, x, none⟩ (.int .i64 (p : Int))).drew S (sur Wk gu gs go n m cl al dia) 68 := hBr2
                have hK3 : Keeps (fun b => b = gs ∨ b = go) W0 (wr.setCell ⟨gs, x, none⟩ (.int .i64 (p : Int))).drew := hK2.drewN 1
                have e2' : (wr.setCell ⟨gs, x, none⟩ (.int .i64 (p : Int))).drew.cell? ⟨go, j, none⟩ = some (.int .i64 x) := (World.cell?_setCell_far _ _ _ _ n5).trans e2
                clear hrow hrow2 hsr hsr2 hBr hBr2 hK hK2 e1 e2 e3 e4 e5 s9 s10 hDr
                generalize (wr.setCell ⟨gs, x, none⟩ (.int .i64 (p : Int))).drew = W2 at *
                have s10 := sur10 hBr3
                have e3 := hrow3.free j
                have hrow4 : Hid _ := hrow3.set hjl ((x : Int) + 1)
                have hsr4 : Hid _ := hsr3.other (a := ⟨go, j, none⟩) n5 (.int .i64 ((x : Int) + 1))
                have hK4 : Hid _ := hK3.setCell (p := ⟨go, j, none⟩) (fun _ => .inr rfl) (.int .i64 ((x : Int) + 1))
                go_wp2_with fail
                go_roundw
                case rel => exact ⟨p + 1, by omega, by go_num, ⟨_, _, hrow4.out, hsr4.out, hst⟩, hK4.out⟩
                case measure => simp [intOf]; omega
            · obtain rfl : n = p := by omega
              obtain ⟨v1, v2, v3, v4⟩ := hc.out.last hE
              replace v3 : Hid _ := v3
              replace v4 : Hid _ := v4
              generalize G.sums D E n (E + 1) = N at *
              have e1 := hrow.cell (i := E) (by omega)
              rw [v1] at e1
              clear v1
              have hEi : (E : Int) < (n : Int) + 2 := by omega
              have hNi : (N : Int) ≤ (n : Int) := by omega
              have hKf : Keeps (fun b => b = gs ∨ b = go) w wr := hKw.trans hK (fun _ _ h => h)
              go_upto_region 19 with fail
              go_region_held3 (fun w' => w'.cell? ⟨S, 9, none⟩ = some (.slice (some ⟨gs, 0, none⟩) n n) ∧ w'.cell? ⟨S, 10, none⟩ = some (.slice (some ⟨go, 0, none⟩) (n + 2) (n + 2)) ∧ w'.cell? ⟨go, E, none⟩ = some (.int .i64 N)) (go_keep) (fail)
              go_wp2_with fail
              go_ret
              exact ⟨N, rfl, v2, ⟨h, hsr, v3.out, v4.out⟩, ⟨f, hrow⟩, hKf.drewN 1⟩
end Go.Proofs.Qxb6608983a
