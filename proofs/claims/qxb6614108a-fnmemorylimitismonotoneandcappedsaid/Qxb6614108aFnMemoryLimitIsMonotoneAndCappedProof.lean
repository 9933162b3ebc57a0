/-
  PROOF OF 'Rows.FnMemoryLimitIsMonotoneAndCappedSaid'. The row's frame is the guide's template, written by program; the walks and the plain law are ours.
-/
import Derived.Test.Qxb6614108aRows
import Derived.WalkKit
import Derived.ProofKit
import Derived.OpenShut
import Derived.ShutString
namespace Go.Proofs.Qxb6614108a.fnMemoryLimitIsMonotoneAndCapped
open Go.ChangeShapes Go.WideShapes Go.ChangeAt Go.RowKit
open Go.ChangeMaps (open_string shut_string)
set_option linter.unusedVariables false

theorem own : ownKnob Try.prog.godebug = none := by kernel_rfl

/-! ### THE PLAIN LAW: what memoryLimit computes -/
/-- memoryLimit(a): 32 times the greater of a and 1 MiB, or the greatest multiple of 32 that an int holds. -/
def memL (a : Int) : Int := if a < 1048576 then 33554432 else if a ≤ 288230376151711743 then a * 32 else 9223372036854775776
/-- the size that counts: at least 1 MiB -/
def top (a : Int) : Int := if a < 1048576 then 1048576 else a

theorem memL_lo (a : Int) : 0 ≤ memL a := by unfold memL; split <;> (try split) <;> omega
theorem memL_hi (a : Int) : memL a ≤ 9223372036854775776 := by unfold memL; split <;> (try split) <;> omega
theorem memL_mod (a : Int) : memL a % 32 = 0 := by unfold memL; split <;> (try split) <;> omega
theorem memL_le (a : Int) : memL a / 32 ≤ top a := by unfold memL top; split <;> (try split) <;> omega
theorem memL_or (a : Int) : memL a / 32 = top a ∨ 9223372036854775775 < memL a := by unfold memL top; split <;> (try split) <;> omega
theorem memL_mono (a b : Int) (h : a ≤ b) : memL a ≤ memL b := by unfold memL; (repeat' split) <;> omega
theorem top_lo (a : Int) : 0 ≤ top a := by unfold top; split <;> omega

/-! ### THE WALKS OF THE CALLEES -/
theorem times_any (n : Int) (w : World) (h0 : 0 ≤ n) (h1 : n ≤ 9223372036854775807) :
    Calls Try.prog 17 #[.int .i64 n, .int .i64 32] w fun e w' => e = .returned (.int .i64 (if n ≤ 288230376151711743 then n * 32 else 9223372036854775776)) ∧ w' = w := by
  by_cases h : n ≤ 288230376151711743
  · go_enter Try.func17, Try.ntmps17
    go_wp2
    go_ret
    exact ⟨rfl, rfl⟩
  · go_enter Try.func17, Try.ntmps17
    go_wp2
    go_ret
    exact ⟨rfl, rfl⟩

theorem limit_any (n : Int) (w : World) (h1 : n ≤ 9223372036854775807) :
    Calls Try.prog 5 #[.int .i64 n] w fun e w' => e = .returned (.int .i64 (memL n)) ∧ w' = w := by
  have h2 : Hid (n < 1048576 → memL n = 33554432) := fun h => if_pos h
  have h3 : Hid (¬ n < 1048576 → n ≤ 288230376151711743 → memL n = n * 32) := fun h h' => by unfold memL; rw [if_neg h, if_pos h']
  have h4 : Hid (¬ n < 1048576 → ¬ n ≤ 288230376151711743 → memL n = 9223372036854775776) := fun h h' => by unfold memL; rw [if_neg h, if_neg h']
  by_cases h : n < 1048576
  · go_enter Try.func5, Try.ntmps5
    go_wp2
    go_ret
    rw [h2.out h]
    exact ⟨rfl, rfl⟩
  · by_cases h' : n ≤ 288230376151711743
    · go_enter Try.func5, Try.ntmps5
      go_wp2
      go_ret
      rw [h3.out (by omega) (by omega)]
      exact ⟨rfl, rfl⟩
    · go_enter Try.func5, Try.ntmps5
      go_wp2
      go_ret
      rw [h4.out (by omega) (by omega)]
      exact ⟨rfl, rfl⟩

/-- r is the greatest multiple of 32 that is at most 32 * m and fits an int. -/
def CapOK (r m : Int) : Prop := 0 ≤ m ∧ 0 ≤ r ∧ r ≤ 9223372036854775776 ∧ r % 32 = 0 ∧ r / 32 ≤ m ∧ (r / 32 = m ∨ 9223372036854775775 < r)

theorem capOK_lo (a : Int) (h : a < 1048576) : CapOK (memL a) 1048576 := by
  have e : top a = 1048576 := if_pos h
  have := memL_le a
  have := memL_or a
  rw [e] at *
  exact ⟨by omega, memL_lo a, memL_hi a, memL_mod a, by assumption, by assumption⟩
theorem capOK_hi (a : Int) (h : ¬ a < 1048576) : CapOK (memL a) a := by
  have e : top a = a := if_neg h
  have h1 := memL_le a
  have h2 := memL_or a
  rw [e] at h1 h2
  exact ⟨by omega, memL_lo a, memL_hi a, memL_mod a, h1, h2⟩

theorem capped_any (r m : Int) (w : World) (h : CapOK r m) :
    Calls Try.prog 6 #[.int .i64 r, .int .i64 m] w fun e w' => e = .returned (.bool true) ∧ w' = w := by
  obtain ⟨hm, h0, h1, hr, hle, hor⟩ := h
  rcases hor with h | h
  · go_enter Try.func6, Try.ntmps6
    go_wp2
    go_ret
    exact ⟨rfl, rfl⟩
  · go_enter Try.func6, Try.ntmps6
    go_wp2
    all_goals go_ret
    all_goals exact ⟨rfl, rfl⟩

set_option maxHeartbeats 1600000 in
theorem walk (a0 : Int) (a1 : Int) (w0 : (Lit.int .i64 a0).wf = true) (w1 : (Lit.int .i64 a1).wf = true) (w : World) :
    Calls Try.prog 3 #[.int .i64 a0, .int .i64 a1] w fun e w' => e = .returned (.bool true) ∧ Grown w w' := by
  have b0 : a0 ≤ 9223372036854775807 := (bounds_i64 w0).2
  have b1 : a1 ≤ 9223372036854775807 := (bounds_i64 w1).2
  by_cases c1 : a0 < a1
  · have M := memL_mono a0 a1 (by omega)
    by_cases c2 : memL a0 < memL a1
    · by_cases c3 : a0 < 1048576 <;> by_cases c4 : a1 < 1048576
      all_goals
        first | have K0 := capOK_lo a0 c3 | have K0 := capOK_hi a0 c3
        first | have K1 := capOK_lo a1 c4 | have K1 := capOK_hi a1 c4
        go_enter Try.func3, Try.ntmps3
        go_wp2_with (first | (go_at_call 5; refine (limit_any _ _ (by omega)).mono ?_; rintro e w' ⟨rfl, rfl⟩) | (go_at_call 6; refine (capped_any _ _ _ (by assumption)).mono ?_; rintro e w' ⟨rfl, rfl⟩))
        all_goals (go_ret; exact ⟨rfl, Grown.refl _⟩)
    · have E : (memL a1 == memL a0) = true := beq_iff_eq.2 (by omega)
      by_cases c3 : a0 < 1048576 <;> by_cases c4 : a1 < 1048576
      all_goals
        first | have K0 := capOK_lo a0 c3 | have K0 := capOK_hi a0 c3
        first | have K1 := capOK_lo a1 c4 | have K1 := capOK_hi a1 c4
        go_enter Try.func3, Try.ntmps3
        go_wp2_with (first | (go_at_call 5; refine (limit_any _ _ (by omega)).mono ?_; rintro e w' ⟨rfl, rfl⟩) | (go_at_call 6; refine (capped_any _ _ _ (by assumption)).mono ?_; rintro e w' ⟨rfl, rfl⟩))
        all_goals (go_ret; exact ⟨rfl, Grown.refl _⟩)
  · have M := memL_mono a1 a0 (by omega)
    by_cases c3 : a0 < 1048576 <;> by_cases c4 : a1 < 1048576
    all_goals
      first | have K0 := capOK_lo a0 c3 | have K0 := capOK_hi a0 c3
      first | have K1 := capOK_lo a1 c4 | have K1 := capOK_hi a1 c4
      go_enter Try.func3, Try.ntmps3
      go_wp2_with (first | (go_at_call 5; refine (limit_any _ _ (by omega)).mono ?_; rintro e w' ⟨rfl, rfl⟩) | (go_at_call 6; refine (capped_any _ _ _ (by assumption)).mono ?_; rintro e w' ⟨rfl, rfl⟩))
      all_goals (go_ret; exact ⟨rfl, Grown.refl _⟩)

/-! ### THE ROW's STEP: WRITTEN OUT: LEAVE IT -/
set_option maxRecDepth 100000 in
theorem lifted (os : Os) (started : os.Started) (H : Type) (enc : TypeId × Value → H) :
    ReturnsInHanded {} Try.checked os 3 .any (Rows.fnMemoryLimitIsMonotoneAndCappedSpec.pre6 enc Try.prog Try.f3 Rows.fnMemoryLimitIsMonotoneAndCappedRow.domain false) (Rows.fnMemoryLimitIsMonotoneAndCappedSpec.post enc Try.prog Try.f3 false true false false) := by
  refine returnsInHanded_of_change (C := Try.checked) own started (by kernel_rfl) Try.func3
    (ChangeSpec.witness6 (enc := enc) (C := Try.checked) false ⟨#[], #[.int .i64 0, .int .i64 0], []⟩ 8 (by kernel_rfl) (by kernel_rfl) (by kernel_rfl) (by kernel_rfl)) ?_
  intro W base args ds gs before hval0 hW hcnd _
  have hval : ∀ (j : Nat) t v, Try.f3.params[j]? = some t → args[j]? = some v → Value.okWide Try.prog W .any base t v := hval0
  have hW' := hW
  obtain ⟨p, q, hA0, hV, rfl, hfz, hnd⟩ := hW
  have hA : DataW.TrodAll enc Try.prog W 0 (fun _ => true) true Try.f3.params.toList args.toList ds p := hA0
  rw [Try.params3] at hA hval
  obtain ⟨v0, vs0, d0, ds0, p0, q0, hargs, rfl, rfl, h0, r0⟩ := trodAll_cons hA
  obtain ⟨v1, vs1, d1, ds1, p1, q1, rfl, rfl, rfl, h1, r1⟩ := trodAll_cons r0
  obtain ⟨rfl, rfl, rfl⟩ := trodAll_nil r1
  obtain rfl : args = #[v0, v1] := by cases args; simp_all
  obtain ⟨rfl, rfl⟩ := trodVars_none hV
  obtain ⟨a0, rfl, rfl, rfl, w0⟩ := open_int Try.underlying3 (hval 0 3 v0 rfl rfl) h0
  obtain ⟨a1, rfl, rfl, rfl, w1⟩ := open_int Try.underlying3 (hval 1 3 v1 rfl rfl) h1
  clear hA0 hval0
  simp only [List.append_nil] at hW'
  refine (walk a0 a1 w0 w1 W).mono fun e W' ⟨he, hg⟩ => ?_
  subst he
  exact ⟨_, rfl, post_of_same (pa := []) (pv := []) hW' (fun _ _ _ => (trodAll_cons_mk (shut_bool Try.underlying4 _) trodAll_mk0)) (fun sp _ => (trodAll_cons_mk (shut_int Try.underlying3 w0) (trodAll_cons_mk (shut_int Try.underlying3 w1) trodAll_mk0))) (fun _ _ => rfl) rfl
    (hg.frame _) hg.2.1 (ok_one (by kernel_rfl) rfl (okWide_bool_mk Try.underlying4 _))⟩

theorem over : Rows.fnMemoryLimitIsMonotoneAndCappedRow.holds Try.pinned (OpenSpec.ofChange Rows.fnMemoryLimitIsMonotoneAndCappedSpec) :=
  OpenClaim.holds_of_wide 3 Try.f3 rfl rfl rfl rfl rfl rfl rfl ⟨rfl, rfl, rfl, rfl, rfl⟩ rfl rfl rfl rfl rfl (by kernel_rfl) Try.func3 (by kernel_rfl)
    (of_decide_eq_true (by kernel_rfl)) (by unfold Func.isWrapper; first | (rw [if_pos (by decide +kernel)]; kernel_rfl) | (rw [if_neg (by decide +kernel)]; exact ⟨rfl, rfl⟩))
    (fun os started H enc _ => lifted os started H enc)

/-- ████ THE STATEMENT ████ -/
theorem proved : Rows.FnMemoryLimitIsMonotoneAndCappedSaid :=
  over
end Go.Proofs.Qxb6614108a.fnMemoryLimitIsMonotoneAndCapped
