import Derived.Test.Qxb6608983aSmall
import Derived.Deep.DeepCutAuto
import Derived.Deep.Light
set_option linter.unusedVariables false
namespace Go.Proofs.Qxb6608983a
open Go.ChangeShapes Go.WideShapes Go.ChangeAt Go.RowKit
open G (upd upd_same upd_other)

set_option maxHeartbeats 4000000 in
set_option maxRecDepth 100000 in
theorem dist_any (a0 a1 a2 a3 : Option Addr) (c0 c1 c2 c3 n m src : Nat) (A B : Nat → Nat) (F C : Nat → Bool) (x : Int) (D : Nat → Int) (w : World) (hm : m ≤ 4096) (hn : n ≤ 4096)
    (h0 : Ints w a0 m (fun i => A i)) (h1 : Ints w a1 m (fun i => B i)) (h2 : Bools w a2 n F) (h3 : Bools w a3 m C) (hE : G.Ends n m A B) (hD : G.IsDist n m A B (usableX A B F C x) src D) :
    Calls Try.prog 17 #[.int .i64 src, .slice a0 m c0, .slice a1 m c1, .slice a2 n c2, .slice a3 m c3, .int .i64 x] w fun e w' =>
      e = .returned (.slice (some ⟨w.heap.size, 0, none⟩) n n) ∧ IRow w' w.heap.size n D ∧ Below w.heap.size w w' := by
  have hmk := make_ints n (by omega)
  have hsrc := hD.src_lt
  go_enter Try.func17, Try.ntmps17
  go_wp2
  go_loopw [15] (fun i wr => ∃ k : Nat, k ≤ n ∧ i = .int .i64 k ∧ (∃ f', IRow wr w.heap.size n f' ∧ ∀ j, j < k → f' j = -1) ∧ Below w.heap.size w wr) (fun i _ => n - (intOf i).toNat)
  case atStart => exact ⟨0, Nat.zero_le _, rfl, ⟨_, irow_made w n, fun j hj => absurd hj (Nat.not_lt_zero _)⟩, (Below.refl _ _).alloc (Nat.le_refl _) _⟩
  case round =>
    obtain ⟨k, hk, rfl, ⟨f', hrow, hf'⟩, hbel⟩ := hrel
    by_cases hlt : k < n
    · have e2 := hrow.cell hlt
      have e3 := hrow.free k
      have hi1 : (k : Int) < (n : Int) := by omega
      have hrow2 : Hid _ := hrow.set hlt (-1)
      go_wp2
      go_roundw
      case rel =>
        refine ⟨k + 1, by omega, by go_num, ⟨_, hrow2.out, fun j hj => ?_⟩, hbel.setCell (Nat.le_refl _) _⟩
        by_cases e : j = k
        · subst e; exact upd_same _ _ _
        · rw [upd_other _ _ _ e]; exact hf' j (by omega)
      case measure => simp [intOf]; omega
    · have e2 := hrow.cell hsrc
      have e3 := hrow.free src
      have hi1 : (src : Int) < (n : Int) := by omega
      have hrow2 : Hid (IRow (wr.setCell ⟨w.heap.size, src, none⟩ (.int .i64 0)) w.heap.size n (upd f' src 0)) := hrow.set hsrc 0
      have hout : Hid (G.Outer n m A B (usableX A B F C x) src D 0 (upd f' src 0) true) := G.outer_start hD (upd_same _ _ _) (fun v hv hne => by rw [upd_other _ _ _ hne]; exact hf' v (by omega))
      clear hf'
      go_wp2
      go_loopw [16, 17] (fun b r w2 => ∃ (rr : Nat) (d : Nat → Int) (ch : Bool), rr ≤ n ∧ b = .bool ch ∧ r = .int .i64 rr ∧ IRow w2 w.heap.size n d ∧ G.Outer n m A B (usableX A B F C x) src D rr d ch ∧ Below w.heap.size w w2) (fun _ r _ => n - (intOf r).toNat)
      case atStart => exact ⟨0, _, true, Nat.zero_le _, rfl, rfl, hrow2.out, hout.out, hbel.setCell (Nat.le_refl _) _⟩
      case round =>
        clear hrow2 hout e2 e3 hrow hbel
        obtain ⟨r, d, ch, hr, rfl, rfl, hrow, hout, hbel⟩ := hrel
        have fin : ch = false ∨ r = n → Hid (IRow wr w.heap.size n D) := fun h => hrow.congr (hout.final hD hE h)
        by_cases hgo : ch = true ∧ r < n
        · obtain ⟨rfl, hrn⟩ := hgo
          have hin : Hid _ := hout.inner
          clear fin hout
          go_wp2
          go_loopw [16, 18] (fun b i w3 => ∃ (ii : Nat) (d : Nat → Int) (ch : Bool), ii ≤ m ∧ b = .bool ch ∧ i = .int .i64 ii ∧ IRow w3 w.heap.size n d ∧ G.Inner n A B (usableX A B F C x) src D r ii d ch ∧ Below w.heap.size w w3) (fun _ i _ => m - (intOf i).toNat)
          case atStart => exact ⟨0, d, false, Nat.zero_le _, rfl, rfl, hrow, hin.out, hbel⟩
          case round =>
            clear hrow hin hbel
            obtain ⟨i, d, ch, hi, rfl, rfl, hrow, hin, hbel⟩ := hrel
            by_cases him : i < m
            · have hl := hE i him
              go_wp2_with fail
              refine (usable_any a0 a1 a2 a3 c0 c1 c2 c3 n m i A B F C x wr hm hn him (h0.later hbel) (h1.later hbel) (h2.later hbel) (h3.later hbel) hl.1 hl.2.1).mono ?_
              cases hU : usableX A B F C x i
              · rintro e w' ⟨rfl, hw⟩
                obtain rfl := hw.symm
                have hsk : Hid _ := hin.skip hU
                clear hU
                go_wp2_with fail
                go_roundw
                case rel => exact ⟨i + 1, d, ch, by omega, rfl, by go_num, hrow, hsk.out, hbel⟩
                case measure => simp [intOf]; omega
              · rintro e w' ⟨rfl, hw⟩
                obtain rfl := hw.symm
                have hst : Hid _ := hin.step hD hE him hU
                have hbd : Hid _ := hin.bd
                clear hU hin
                rcases h0.later hbel with h | ⟨b0, o0, rfl, hc0⟩
                · omega
                rcases h1.later hbel with h | ⟨b1, o1, rfl, hc1⟩
                · omega
                have e0 : wr.cell? ⟨b0, o0 + i, none⟩ = some (.int .i64 (A i)) := hc0 i him
                have e1 : wr.cell? ⟨b1, o1 + i, none⟩ = some (.int .i64 (B i)) := hc1 i him
                clear hc0 hc1
                have hi1 : (i : Int) < (m : Int) := by omega
                generalize hA : A i = u at *
                generalize hB : B i = v at *
                clear hA hB
                go_upto_region 19 with fail
                have cu := hrow.cell hl.1
                have cv := hrow.cell hl.2.1
                have bu := hbd.out u hl.1
                have bv := hbd.out v hl.2.1
                have hu1 : (u : Int) < (n : Int) := by omega
                have hv1 : (v : Int) < (n : Int) := by omega
                go_cut [89] (fun s wx => s = .bool (G.moved d u v) ∧ ∃ nd, wx = wr.drewN nd)
                case first =>
                  by_cases d1 : d u < 0
                  · have d1' : decide (0 ≤ d u) = false := by simp; omega
                    go_quiet (fail)
                    go_wp2
                    go_meet
                    case rel => exact ⟨congrArg Value.bool (decide_eq_false (by omega)).symm, _, rfl⟩
                  · have d1' : 0 ≤ d u := by omega
                    by_cases d2 : d v < 0
                    · go_quiet (fail)
                      go_wp2
                      go_meet
                      case rel => exact ⟨congrArg Value.bool (decide_eq_true ⟨d1', .inl d2⟩).symm, _, rfl⟩
                    · have d2' : decide (d v < 0) = false := by simpa using d2
                      by_cases d3 : d u + 1 < d v
                      · go_quiet (fail)
                        go_wp2
                        go_meet
                        case rel => exact ⟨congrArg Value.bool (decide_eq_true ⟨d1', .inr d3⟩).symm, _, rfl⟩
                      · have d3' : decide (d u + 1 < d v) = false := by simpa using d3
                        go_quiet (fail)
                        go_wp2
                        go_meet
                        case rel => exact ⟨congrArg Value.bool (decide_eq_false (by omega)).symm, _, rfl⟩
                case rest =>
                  obtain ⟨rfl, nd, rfl⟩ := hcut
                  have hrow1 : Hid (IRow (wr.setCell ⟨w.heap.size, v, none⟩ (.int .i64 (d u + 1))) w.heap.size n (upd d v (d u + 1))) := hrow.set hl.2.1 _
                  have fv := hrow.free v
                  go_upto_if 89 with fail
                  go_cut [16] (fun s wx => s = .bool (ch || G.moved d u v) ∧ IRow wx w.heap.size n (G.half d u v) ∧ Below w.heap.size w wx)
                  case first =>
                    cases hmv : G.moved d u v
                    · have hno : Hid (G.half d u v = d) := G.half_no (of_decide_eq_false hmv)
                      have hmv' : Hid _ := hmv
                      clear hmv
                      go_wp2
                      go_meet
                      case rel => exact ⟨by rw [hmv'.out]; simp, by rw [hno.out]; exact hrow, below_drewN hbel _⟩
                    · have hyes : Hid (G.half d u v = upd d v (d u + 1)) := G.half_yes (of_decide_eq_true hmv)
                      have d0 : 0 ≤ d u := (of_decide_eq_true hmv).1
                      have hmv' : Hid _ := hmv
                      clear hmv
                      go_wp2
                      go_meet
                      case rel => exact ⟨by rw [hmv'.out]; simp, by rw [hyes.out]; exact hrow1.out, below_drewN (hbel.setCell (Nat.le_refl _) _) _⟩
                  case rest =>
                    clear cu cv bu bv fv hrow1
                    obtain ⟨rfl, hrow1, hbel1⟩ := hcut
                    have hbd1 : Hid (∀ y, y < n → G.half d u v y ≤ 8192 * r + 2 * i + 1) := G.half_le hbd.out (by omega) hl.1
                    generalize G.half d u v = d' at *
                    go_upto_region 22 with fail
                    have cu := hrow1.cell hl.1
                    have cv := hrow1.cell hl.2.1
                    have bu := hbd1.out u hl.1
                    have bv := hbd1.out v hl.2.1
                    go_cut [121] (fun s wx => s = .bool (G.moved d' v u) ∧ ∃ nd, wx = wc.drewN nd)
                    case first =>
                      by_cases d1 : d' v < 0
                      · have d1' : decide (0 ≤ d' v) = false := by simp; omega
                        go_quiet (fail)
                        go_wp2
                        go_meet
                        case rel => exact ⟨congrArg Value.bool (decide_eq_false (by omega)).symm, _, rfl⟩
                      · have d1' : 0 ≤ d' v := by omega
                        by_cases d2 : d' u < 0
                        · go_quiet (fail)
                          go_wp2
                          go_meet
                          case rel => exact ⟨congrArg Value.bool (decide_eq_true ⟨d1', .inl d2⟩).symm, _, rfl⟩
                        · have d2' : decide (d' u < 0) = false := by simpa using d2
                          by_cases d3 : d' v + 1 < d' u
                          · go_quiet (fail)
                            go_wp2
                            go_meet
                            case rel => exact ⟨congrArg Value.bool (decide_eq_true ⟨d1', .inr d3⟩).symm, _, rfl⟩
                          · have d3' : decide (d' v + 1 < d' u) = false := by simpa using d3
                            go_quiet (fail)
                            go_wp2
                            go_meet
                            case rel => exact ⟨congrArg Value.bool (decide_eq_false (by omega)).symm, _, rfl⟩
                    case rest =>
                      obtain ⟨rfl, nd2, rfl⟩ := hcut
                      have hrow2 : Hid (IRow (wc.setCell ⟨w.heap.size, u, none⟩ (.int .i64 (d' v + 1))) w.heap.size n (upd d' u (d' v + 1))) := hrow1.set hl.1 _
                      have fu := hrow1.free u
                      cases hmv : G.moved d' v u
                      · have hno : Hid (G.half d' v u = d') := G.half_no (of_decide_eq_false hmv)
                        rw [hmv] at hst
                        clear hmv
                        go_wp2
                        go_roundw
                        case rel => exact ⟨i + 1, _, _, by omega, by simp, by go_num, by rw [hno.out]; exact hrow1, hst.out, below_drewN hbel1 _⟩
                        case measure => simp [intOf]; omega
                      · have hyes : Hid (G.half d' v u = upd d' u (d' v + 1)) := G.half_yes (of_decide_eq_true hmv)
                        have d0 : 0 ≤ d' v := (of_decide_eq_true hmv).1
                        rw [hmv] at hst
                        clear hmv
                        go_wp2
                        go_roundw
                        case rel => exact ⟨i + 1, _, _, by omega, by simp, by go_num, by rw [hyes.out]; exact hrow2.out, hst.out, below_drewN (hbel1.setCell (Nat.le_refl _) _) _⟩
                        case measure => simp [intOf]; omega
            · obtain rfl : i = m := by omega
              have hout : Hid _ := hin.outer hD hm
              go_wp2
              go_roundw
              case rel => exact ⟨r + 1, d, ch, by omega, rfl, by go_num, hrow, hout.out, hbel⟩
              case measure => simp [intOf]; omega
        · have hend : ch = false ∨ r = n := by
            cases ch
            · exact .inl rfl
            · exact .inr (by have : ¬ r < n := fun h => hgo ⟨rfl, h⟩; omega)
          have hfin := fin hend
          clear fin hout hgo
          rcases hend with rfl | rfl
          · go_wp2
            go_ret
            exact ⟨rfl, hfin.out, hbel⟩
          · cases ch
            all_goals
              go_wp2
              go_ret
              exact ⟨rfl, hfin.out, hbel⟩
end Go.Proofs.Qxb6608983a
