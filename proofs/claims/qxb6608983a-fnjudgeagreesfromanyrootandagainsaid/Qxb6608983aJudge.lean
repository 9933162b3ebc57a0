import Derived.Test.Qxb6608983aSearch
import Derived.Test.Qxb6608983aFar
set_option linter.unusedVariables false
set_option linter.unusedSimpArgs false
namespace Go.Proofs.Qxb6608983a
open Go.ChangeShapes Go.WideShapes Go.ChangeAt Go.RowKit
open G (upd upd_same upd_other)

/-- memory while judge goes: the survey, the bounds, the row of survivors, the two bools -/
structure JM (w0 w : World) (n m lo hi gf gc Wk gu gs go S T td cl : Nat) (al : Option Addr) (dia : Int) (F C : Nat → Bool) (Ps : Nat → List (Nat × Nat)) (DD : Nat → Nat → Int) (r E G : Nat) (h : Nat → Int) : Prop where
  js : JS w n m lo hi gf gc Wk gu gs go S T td cl al dia F C Ps DD r E
  up : ∃ f, IRow w gu n f ∧ Hid (UpOK n DD r f)
  fa : IRow w gs n h
  gb : Blk w G #[.bool false, .bool true] 4
  keeps : Keeps (fun b => Wk ≤ b ∧ b ≤ S) w0 w

theorem JM.setUp {w0 w w' : World} {n m lo hi gf gc Wk gu gs go S T td cl : Nat} {al : Option Addr} {dia : Int} {F C : Nat → Bool} {Ps : Nat → List (Nat × Nat)} {DD : Nat → Nat → Int} {r E G : Nat} {h : Nat → Int}
    (j : JM w0 w n m lo hi gf gc Wk gu gs go S T td cl al dia F C Ps DD r E G h) (hA : JAp lo hi gf gc Wk gu gs go S T td) (hG : td + 2 < G) (hk : Keeps (fun b => b = gu) w w') {f : Nat → Int} (hu : IRow w' gu n f) (ho : UpOK n DD r f) :
    JM w0 w' n m lo hi gf gc Wk gu gs go S T td cl al dia F C Ps DD r E G h := by
  have hA' := hA
  obtain ⟨a1, a2, a3, a4, a5, a6, a7, a8, a9, a10, a11, a12, a13, a14⟩ := hA
  exact ⟨j.js.setUp hA' hk ⟨f, hu⟩, ⟨f, hu, ho⟩, j.fa.kept hk (by omega), j.gb.kept hk (by omega), j.keeps.trans hk (fun b _ h => by omega)⟩

theorem JM.drew {w0 w : World} {n m lo hi gf gc Wk gu gs go S T td cl : Nat} {al : Option Addr} {dia : Int} {F C : Nat → Bool} {Ps : Nat → List (Nat × Nat)} {DD : Nat → Nat → Int} {r E G : Nat} {h : Nat → Int}
    (j : JM w0 w n m lo hi gf gc Wk gu gs go S T td cl al dia F C Ps DD r E G h) (hA : JAp lo hi gf gc Wk gu gs go S T td) : JM w0 w.drew n m lo hi gf gc Wk gu gs go S T td cl al dia F C Ps DD r E G h := by
  have kd : Keeps (fun _ => False) w w.drew := (Keeps.refl _ _).drewN 1
  obtain ⟨f, hu, ho⟩ := j.up
  exact ⟨j.js.kept hA kd (fun _ _ _ => id) (fun _ _ _ => id), ⟨f, hu.kept kd id, ho⟩, j.fa.kept kd id, j.gb.kept kd id, j.keeps.trans kd (fun _ _ h => h.elim)⟩

theorem JM.searched {w0 w w' : World} {n m lo hi gf gc Wk gu gs go S T td cl : Nat} {al : Option Addr} {dia : Int} {F C : Nat → Bool} {Ps : Nat → List (Nat × Nat)} {DD : Nat → Nat → Int} {r E G : Nat} {h : Nat → Int}
    (j : JM w0 w n m lo hi gf gc Wk gu gs go S T td cl al dia F C Ps DD r E G h) (hA : JAp lo hi gf gc Wk gu gs go S T td) (hG : td + 2 < G) (hk : Keeps (fun b => Wk ≤ b ∧ b ≤ Wk + 3) w w')
    (hJ : JS w' n m lo hi gf gc Wk gu gs go S T td cl al dia F C Ps DD r E) : JM w0 w' n m lo hi gf gc Wk gu gs go S T td cl al dia F C Ps DD r E G h := by
  obtain ⟨a1, a2, a3, a4, a5, a6, a7, a8, a9, a10, a11, a12, a13, a14⟩ := hA
  obtain ⟨f, hu, ho⟩ := j.up
  exact ⟨hJ, ⟨f, hu.kept hk (by omega), ho⟩, j.fa.kept hk (by omega), j.gb.kept hk (by omega), j.keeps.trans hk (fun b _ h => by omega)⟩

set_option maxHeartbeats 4000000 in
set_option maxRecDepth 100000 in
theorem judge_any {w : World} {n m lo hi gf gc Wk gu gs go S T td cl : Nat} {al : Option Addr} {dia : Int} {A B : Nat → Nat} {F C : Nat → Bool} {DD : Nat → Nat → Int} {r E : Nat} {W : Int} (hn : n ≤ 4096) (hm : m ≤ 4096)
    (hJ : JS w n m lo hi gf gc Wk gu gs go S T td cl al dia F C (portsTo A B m) DD r E) (hA : JAp lo hi gf gc Wk gu gs go S T td) (hD : G.AllD n m A B (G.usable A B F C) DD) (hE : G.Ends n m A B)
    (hr : r < n) (hFr : F r = false) (hEr : Hid (∀ v, v < n → DD r v ≤ E)) (hEa : Hid (∃ v, v < n ∧ DD r v = E)) (hW : Hid (G.IsDiam n DD r W)) (hd0 : 0 ≤ dia) (hdW : dia ≤ W) :
    Calls Try.prog 45 #[.pointer (some ⟨S, 0, none⟩), .pointer (some ⟨T, 0, none⟩), .int .i64 (-1)] w fun e w' => e = .returned (.tuple #[]) ∧ JS w' n m lo hi gf gc Wk gu gs go S T td cl al W F C (portsTo A B m) DD r E ∧ Keeps (fun b => Wk ≤ b ∧ b ≤ S) w w' := by
  obtain ⟨tcs, lq, Qf, tb, c3, c5, c7, q1, q2, hd, hq, q0⟩ := hJ.tr
  have e0 : w.cell? ⟨td + 2, 0, none⟩ = some (.int .i64 (r : Int)) := by rw [← q0]; exact hq.cell (by omega)
  have t5 := tb.cell c5
  have hlq : (0 : Int) < (lq : Int) := by omega
  have s16 := sur16 hJ.s
  go_enter Try.func45, Try.ntmps45
  go_wp2_with fail
  refine (search_root (.pointer (some ⟨S, 0, none⟩)) T r (td + 2) lq n E w tb c5 c7 q1 e0).mono ?_
  rintro e w1 ⟨rfl, hw⟩
  obtain rfl := hw.symm
  clear hw
  go_upto_region 3 with fail
  obtain ⟨V, hV⟩ : ∃ V : Int, V = if dia < (E : Int) then (E : Int) else dia := ⟨_, rfl⟩
  have hEW : (E : Int) ≤ W := by
    obtain ⟨v, hv, e⟩ := hEa.out
    have h0 := (hD r hr).src0
    have := hW.out.le r v hr hv (by omega) (by omega)
    omega
  have hV1 : (E : Int) ≤ V ∧ dia ≤ V ∧ V ≤ W := by rw [hV]; split <;> omega
  rw [← hV]
  clear hV
  have hEn : Hid (E < n) := by
    obtain ⟨v, hv, e⟩ := hEa.out
    have := (hD r hr).hi v hv
    show E < n
    omega
  have hA' := hA
  obtain ⟨a1, a2, a3, a4, a5, a6, a7, a8, a9, a10, a11, a12, a13, a14⟩ := hA'
  go_wp2_with fail
  refine (dist_tree (.pointer (some ⟨S, 0, none⟩)) T n td w tb c3).mono ?_
  rintro e w1 ⟨rfl, hw⟩
  obtain rfl := hw.symm
  clear hw
  go_wp2_with fail
  go_loopw [48] (fun i wr => ∃ k : Nat, k ≤ n ∧ i = .int .i64 k ∧ (∃ f, IRow wr gu n f ∧ Hid (∀ q, q < k → 0 ≤ DD r q → f q = E + DD r q)) ∧ Keeps (fun b => b = gu) w wr) (fun i _ => n - (intOf i).toNat)
  case atStart =>
    obtain ⟨f, hf⟩ := hJ.up
    exact ⟨0, Nat.zero_le _, rfl, ⟨f, hf, fun q hq => absurd hq (Nat.not_lt_zero _)⟩, Keeps.refl _ _⟩
  case round =>
    clear t5 s16 e0
    obtain ⟨k, hk, rfl, ⟨f, hrow, hf⟩, hK⟩ := hrel
    by_cases hkn : k < n
    · have e1 := (hd.kept hK (by omega)).cell hkn
      have s8 := sur8 (hJ.s.kept hK (by omega))
      have hki : (k : Int) < (n : Int) := by omega
      rcases Int.lt_or_le (DD r k) 0 with hneg | hpos
      · have hs : Hid (∀ q, q < k + 1 → 0 ≤ DD r q → f q = E + DD r q) := fun q hq h0 => by
          by_cases c : q = k
          · subst c; omega
          · exact hf.out q (by omega) h0
        go_wp2
        go_roundw
        case rel => exact ⟨k + 1, by omega, by go_num, ⟨_, hrow, hs⟩, hK⟩
        case measure => simp [intOf]; omega
      · have hs : Hid (∀ q, q < k + 1 → 0 ≤ DD r q → upd f k (E + DD r k) q = E + DD r q) := fun q hq h0 => by
          by_cases c : q = k
          · subst c; rw [upd_same]
          · rw [upd_other _ _ _ c]; exact hf.out q (by omega) h0
        have hle := hEr.out k hkn
        have hEn' := hEn.out
        have w1 : IntKind.i64.wrap ((E : Int) + DD r k) = (E : Int) + DD r k := wrap_small _ (by omega) (by omega)
        have e2 := hrow.cell hkn
        have e3 := hrow.free k
        have hrow2 : Hid _ := hrow.set hkn ((E : Int) + DD r k)
        have hK2 : Hid _ := hK.setCell (p := ⟨gu, k, none⟩) (fun _ => rfl) (.int .i64 ((E : Int) + DD r k))
        clear hle hEn'
        go_wp2
        go_roundw
        case rel => exact ⟨k + 1, by omega, by go_num, ⟨_, hrow2.out, hs⟩, hK2.out⟩
        case measure => simp [intOf]; omega
    · obtain rfl : n = k := by omega
      have hup : Hid (UpOK n DD r f) := fun q hq h0 v hv => by
        rw [hf.out q hq h0]
        exact upper_ok hD hE hr hq hv h0 hEr.out
      have hJ1 := hJ.setUp hA hK ⟨f, hrow⟩
      have hd1 := hd.kept hK (by omega)
      clear hf
      go_wp2_with fail
      refine (far_any S Wk gu gs go n m cl td E al dia (DD r) wr hn hJ1.s hd1 (fun p hp => (hD r hr).lo p hp) (fun p hp => hEr.out p hp) hEn.out hJ1.fa hJ1.or_ (by omega) (by omega) (by omega) (by omega) (by omega)).mono ?_
      rintro e w2 ⟨N, rfl, hNn, ⟨h, hh, hin, hall⟩, hor, hK2⟩
      have hJ2 := hJ1.setFar hA hK2 ⟨h, hh⟩ hor
      have hr2 := hrow.kept hK2 (by omega)
      have hKw : Keeps (fun b => Wk ≤ b ∧ b ≤ S) w w2 := (hK.mono (fun b _ h => by omega)).trans hK2 (fun b _ h => by omega)
      obtain ⟨tcs2, lq2, Qf2, tb2, c32, c52, c72, q12, q22, hd2, hq2, q02⟩ := hJ2.tr
      have hG : td + 2 < w2.heap.size := hq2.lt
      have hh2 : Hid (IRow w2 gs n h) := hh
      replace hin : Hid _ := hin
      replace hall : Hid _ := hall
      clear tb2 c32 c52 c72 q12 q22 hd2 hq2 q02 hJ1 hd1 hJ hd hq tb c3 c5 c7 hrow hK hK2 hh hor
      go_upto_region 12 with fail
      have hJM : JM w (w2.alloc (.cells #[.bool false, .bool true] 4)) n m lo hi gf gc Wk gu gs go S T td cl al dia F C (portsTo A B m) DD r E w2.heap.size h := by
        have ka : Keeps (fun _ => False) w2 (w2.alloc (.cells #[.bool false, .bool true] 4)) := (Keeps.refl _ _).alloc _
        obtain ⟨f', hf'⟩ := hJ2.fa
        exact ⟨hJ2.kept hA ka (fun _ _ _ => id) (fun _ _ _ => id), ⟨f, hr2.kept ka id, hup⟩, hh2.out.kept ka id, Blk.new w2 _ 4, hKw.trans ka (fun _ _ h => h.elim)⟩
      clear hJ2 hr2 hKw hup hh2
      generalize w2.alloc (.cells #[.bool false, .bool true] 4) = W3 at *
      generalize w2.heap.size = G at *
      go_loopw [9, 71] (fun s i wr => ∃ (mv : Nat) (W1 : Int), mv ≤ 2 ∧ s = .int .i64 W1 ∧ i = .int .i64 mv ∧ ((E : Int) ≤ W1 ∧ dia ≤ W1 ∧ W1 ≤ W) ∧ Hid (1 ≤ mv → ∀ q, q < n → 0 ≤ DD r q → Ok n DD W1 q) ∧
        JM w wr n m lo hi gf gc Wk gu gs go S T td cl al dia F C (portsTo A B m) DD r E G h) (fun _ i _ => 2 - (intOf i).toNat)
      case atStart => exact ⟨0, V, by omega, rfl, rfl, hV1, fun h => absurd h (by omega), hJM⟩
      case round =>
        clear hJM hV1
        obtain ⟨mv, W1, hmv, rfl, rfl, hV1, hdone, hJM⟩ := hrel
        by_cases hmv2 : mv < 2
        · obtain ⟨b, hb⟩ : ∃ b : Bool, wr.cell? ⟨G, mv, none⟩ = some (.bool b) := by
            rcases (by omega : mv = 0 ∨ mv = 1) with rfl | rfl
            · exact ⟨false, hJM.gb.cell (i := 0) rfl⟩
            · exact ⟨true, hJM.gb.cell (i := 1) rfl⟩
          have hmi : (mv : Int) < 2 := by omega
          clear hdone
          go_upto_region 15 with fail
          go_loopw [9, 77] (fun s i wr => ∃ (k : Nat) (W1 : Int), k ≤ N ∧ s = .int .i64 W1 ∧ i = .int .i64 k ∧ ((E : Int) ≤ W1 ∧ dia ≤ W1 ∧ W1 ≤ W) ∧ Hid (∀ x, x < k → ∀ q : Nat, h x = q → Ok n DD W1 q) ∧
            JM w wr n m lo hi gf gc Wk gu gs go S T td cl al dia F C (portsTo A B m) DD r E G h) (fun _ i _ => N - (intOf i).toNat)
          case atStart => exact ⟨0, W1, Nat.zero_le _, rfl, rfl, hV1, fun x hx => absurd hx (Nat.not_lt_zero _), hJM⟩
          case round =>
            clear hJM hV1 hb
            obtain ⟨k, W1, hk, rfl, rfl, hV1, hdone, hJM⟩ := hrel
            by_cases hkN : k < N
            · obtain ⟨p, hp, hpe, hpc⟩ := hin.out k hkN
              replace hpe : Hid (h k = p) := hpe
              have e1 : wr.cell? ⟨gs, k, none⟩ = some (.int .i64 (p : Int)) := by rw [← hpe.out]; exact hJM.fa.cell (by omega)
              have hki : (k : Int) < (N : Int) := by omega
              have hpi : (p : Int) < (n : Int) := by omega
              have s8 := sur8 hJM.js.s
              obtain ⟨f, hrow, hup⟩ := hJM.up
              have e2 := hrow.cell hp
              have more : ∀ W' : Int, W1 ≤ W' → Ok n DD W' p → Hid (∀ x, x < k + 1 → ∀ q : Nat, h x = q → Ok n DD W' q) := fun W' hW' hok x hx q hq => by
                by_cases c : x = k
                · subst c
                  have : q = p := by have := hpe.out; omega
                  subst this
                  exact hok
                · intro v hv
                  have := hdone.out x (by omega) q hq v hv
                  omega
              rcases Int.lt_or_le W1 (f p) with hgt | hle
              · have g1 : decide (f p ≤ W1) = false := by simp; omega
                go_upto_region 17 with fail
                go_cut [99] (fun s wx => s = .bool false ∧ wx = wr)
                case first =>
                  cases b
                  · go_wp2_with fail
                    refine (moves_any _ _ wr).mono ?_
                    rintro e w5 ⟨rfl, hw5⟩
                    obtain rfl := hw5.symm
                    clear hw5
                    go_wp2_with fail
                    go_meet
                    case rel => exact ⟨rfl, rfl⟩
                  · go_wp2_with fail
                    go_meet
                    case rel => exact ⟨rfl, rfl⟩
                case rest =>
                  obtain ⟨rfl, rfl⟩ := hcut
                  have hFp := alive_of hD hr hp hFr hpc
                  go_wp2_with fail
                  refine (search_any p hn hm hJM.js hA hD hE hp hFp hEr.out hEa.out).mono ?_
                  rintro e w5 ⟨ec, fr, rfl, o1, o2, hJ5, hK5, dd, hdd, hdr, hcall⟩
                  have hJM5 := hJM.searched hA hG hK5 hJ5
                  replace hcall : Hid (Calls Try.prog 50 #[.pointer (some ⟨S, 0, none⟩), fr, .int .i64 (-1)] w5 fun e w'' => e = .returned (.slice (some ⟨dd, 0, none⟩) n n) ∧ w'' = w5) := hcall
                  have b0 : 0 ≤ ec := by have h1 := o1 p hp; rw [(hD p hp).src0] at h1; exact h1
                  have b1 : ec < n ∧ ec ≤ W := by
                    obtain ⟨v, hv, e⟩ := o2
                    have h1 := (hD p hp).hi v hv
                    have h2 := hW.out.le p v hp hv hpc (hD.tri hE hr hp hv hpc (by omega)).1
                    omega
                  replace o1 : Hid (∀ v, v < n → DD p v ≤ ec) := o1
                  clear hJM hJ5 hK5 o2 e1 e2 s8 hrow hup g1 hdone
                  rcases Int.lt_or_le W1 ec with hlt | hle
                  · have hm2 : Hid _ := more ec (by omega) o1.out
                    clear more
                    go_wp2_with fail
                    go_roundw
                    case rel => exact ⟨k + 1, ec, by omega, rfl, by go_num, by omega, hm2.out, hJM5⟩
                    case measure => simp [intOf]; omega
                  · have hm2 : Hid _ := more W1 (Int.le_refl _) (fun v hv => by have := o1.out v hv; omega)
                    have hno : ¬ W1 < ec := by omega
                    clear more
                    by_cases heq : ec = W1
                    · subst heq
                      go_wp2_with fail
                      go_roundw
                      case rel => exact ⟨k + 1, ec, by omega, rfl, by go_num, hV1, hm2.out, hJM5⟩
                      case measure => simp [intOf]; omega
                    · go_wp2_with fail
                      refine Calls.mono hcall.out ?_
                      rintro e w6 ⟨rfl, hw6⟩
                      obtain rfl := hw6.symm
                      clear hw6 hcall
                      go_upto_region 22 with fail
                      go_loopw [119] (fun i wr => ∃ y : Nat, y ≤ n ∧ i = .int .i64 y ∧ JM w wr n m lo hi gf gc Wk gu gs go S T td cl al dia F C (portsTo A B m) DD r E G h ∧ IRow wr dd n (DD p)) (fun i _ => n - (intOf i).toNat)
                      case atStart => exact ⟨0, Nat.zero_le _, rfl, hJM5, hdr⟩
                      case round =>
                        clear hJM5 hdr
                        obtain ⟨y, hy, rfl, hJM, hdr⟩ := hrel
                        by_cases hyn : y < n
                        · have e1 := hdr.cell hyn
                          have hyi : (y : Int) < (n : Int) := by omega
                          rcases Int.lt_or_le (DD p y) 0 with hneg | hpos
                          · go_wp2
                            go_roundw
                            case rel => exact ⟨y + 1, by omega, by go_num, hJM, hdr⟩
                            case measure => simp [intOf]; omega
                          · have s8 := sur8 hJM.js.s
                            obtain ⟨f, hrow, hup⟩ := hJM.up
                            have e2 := hrow.cell hyn
                            have e3 := hrow.free y
                            have hl := (hD p hp).hi y hyn
                            have w1 : IntKind.i64.wrap (ec + DD p y) = ec + DD p y := wrap_small _ (by omega) (by omega)
                            have nxt : Hid (∀ x : Int, x = f y ∨ x = ec + DD p y → JM w (wr.setCell ⟨gu, y, none⟩ (.int .i64 x)) n m lo hi gf gc Wk gu gs go S T td cl al dia F C (portsTo A B m) DD r E G h ∧ IRow (wr.setCell ⟨gu, y, none⟩ (.int .i64 x)) dd n (DD p)) := fun x hx =>
                              ⟨hJM.setUp hA hG ((Keeps.refl (fun b => b = gu) wr).setCell (p := ⟨gu, y, none⟩) (fun _ => rfl) _) (hrow.set hyn x) (hup.out.set hD hE hp hyn hpos o1.out hx), hdr.other (a := ⟨gu, y, none⟩) hdd _⟩
                            have nx : Hid (JM w (wr.setCell ⟨gu, y, none⟩ (.int .i64 (if ec + DD p y < f y then ec + DD p y else f y))).drew n m lo hi gf gc Wk gu gs go S T td cl al dia F C (portsTo A B m) DD r E G h ∧ IRow (wr.setCell ⟨gu, y, none⟩ (.int .i64 (if ec + DD p y < f y then ec + DD p y else f y))).drew dd n (DD p)) := by
                              have h1 := nxt.out (if ec + DD p y < f y then ec + DD p y else f y) (by split <;> simp)
                              exact ⟨h1.1.drew hA, h1.2⟩
                            clear hl nxt
                            go_upto_region 25 with fail
                            go_region_law (fail)
                            all_goals go_wp2_with fail
                            all_goals go_roundw
                            all_goals first
                              | exact ⟨y + 1, by omega, by go_num, nx.out.1, nx.out.2⟩
                              | (simp [intOf]; omega)
                        · go_wp2
                          go_roundw
                          case rel => exact ⟨k + 1, W1, by omega, rfl, by go_num, hV1, hm2.out, hJM⟩
                          case measure => simp [intOf]; omega
              · have g1 : decide (f p ≤ W1) = true := by simp; omega
                have hm2 : Hid _ := more W1 (Int.le_refl _) (fun v hv => by have := hup.out p hp hpc v hv; omega)
                clear more
                go_wp2
                go_roundw
                case rel => exact ⟨k + 1, W1, by omega, rfl, by go_num, hV1, hm2.out, hJM⟩
                case measure => simp [intOf]; omega
            · obtain rfl : N = k := by omega
              have hfin : Hid (1 ≤ mv + 1 → ∀ q, q < n → 0 ≤ DD r q → Ok n DD W1 q) := fun _ q hq h0 => by
                obtain ⟨x, hx, hxe⟩ := hall.out q hq h0
                exact hdone.out x hx q hxe
              go_wp2
              go_roundw
              case rel => exact ⟨mv + 1, W1, by omega, rfl, by go_num, hV1, hfin, hJM⟩
              case measure => simp [intOf]; omega
        · obtain rfl : mv = 2 := by omega
          have hWW : W1 = W := by
            obtain ⟨u, v, hu, hv, h1, h2, e⟩ := hW.out.at_
            have := hdone.out (by omega) u hu h1 v hv
            omega
          subst hWW
          have s16 := sur16 hJM.js.s
          have f16 := hJM.js.s.free 16
          have hfin : Hid _ := hJM.js.setDia hA W1
          have hKf : Hid _ := hJM.keeps.setCell (p := ⟨S, 16, none⟩) (fun _ => by show Wk ≤ S ∧ S ≤ S; omega) (.int .i64 W1)
          go_wp2_with fail
          go_end0
          exact ⟨rfl, hfin.out, hKf.out⟩
end Go.Proofs.Qxb6608983a
