/-
  PROOF OF 'Rows.FnByNameLetsIDsDecideOnlyOnEqualNamesSaid'. The row's frame is the guide's template, written by program; the walks and the plain law are ours.
-/
import Derived.Test.Qxb6613706aRows
import Derived.Test.Qxb6613706aParts
import Derived.Test.Qxb6613706aPlain
import Derived.WalkKit
import Derived.ProofKit
import Derived.OpenShut
import Derived.ShutString
namespace Go.Proofs.Qxb6613706a.fnByNameLetsIDsDecideOnlyOnEqualNames
open Go.ChangeShapes Go.WideShapes Go.ChangeAt Go.RowKit
open Go.ChangeMaps (open_string shut_string)
set_option linter.unusedVariables false      -- a walk need not use every 'w<i>' (that an integer argument fits its kind)

theorem own : ownKnob Try.prog.godebug = none := by kernel_rfl

set_option maxHeartbeats 4000000 in
theorem bytes9_any (a0 a1 a2 a3 a4 a5 a6 a7 a8 : ByteArray) (w : World) (w0 : a0.size ≤ maxLen) (w1 : a1.size ≤ maxLen) (w2 : a2.size ≤ maxLen) (w3 : a3.size ≤ maxLen) (w4 : a4.size ≤ maxLen) (w5 : a5.size ≤ maxLen) (w6 : a6.size ≤ maxLen) (w7 : a7.size ≤ maxLen) (w8 : a8.size ≤ maxLen) :
    Calls Try.prog 8 #[.string a0, .string a1, .string a2, .string a3, .string a4, .string a5, .string a6, .string a7, .string a8] w fun e w' => e = .returned (.bool (decide (a0.size + a1.size + a2.size + a3.size + a4.size + a5.size + a6.size + a7.size + a8.size ≤ 1048576))) ∧ w' = w := by
  unfold maxLen at *
  by_cases h : a0.size + a1.size + a2.size + a3.size + a4.size + a5.size + a6.size + a7.size + a8.size ≤ 1048576
  · have e : Hid (decide (a0.size + a1.size + a2.size + a3.size + a4.size + a5.size + a6.size + a7.size + a8.size ≤ 1048576) = true) := decide_eq_true h
    go_enter Try.func8, Try.ntmps8
    go_wp2
    go_ret
    exact ⟨by rw [e.out]; rfl, rfl⟩
  · have e : Hid (decide (a0.size + a1.size + a2.size + a3.size + a4.size + a5.size + a6.size + a7.size + a8.size ≤ 1048576) = false) := decide_eq_false h
    go_enter Try.func8, Try.ntmps8
    go_wp2
    all_goals (go_ret; exact ⟨by rw [e.out]; rfl, rfl⟩)

theorem list_ne {a b : ByteArray} (h : ¬ a = b) : ¬ a.data.toList = b.data.toList := fun e => h (by
  cases a; cases b; congr 1; exact Array.toList_inj.1 e)

set_option maxHeartbeats 4000000 in
theorem walk (a0 : ByteArray) (a1 : ByteArray) (a2 : ByteArray) (a3 : ByteArray) (a4 : ByteArray) (a5 : ByteArray) (a6 : ByteArray) (a7 : ByteArray) (a8 : ByteArray) (w0 : a0.size ≤ maxLen) (w1 : a1.size ≤ maxLen) (w2 : a2.size ≤ maxLen) (w3 : a3.size ≤ maxLen) (w4 : a4.size ≤ maxLen) (w5 : a5.size ≤ maxLen) (w6 : a6.size ≤ maxLen) (w7 : a7.size ≤ maxLen) (w8 : a8.size ≤ maxLen) (w : World) :
    Calls Try.prog 4 #[.string a0, .string a1, .string a2, .string a3, .string a4, .string a5, .string a6, .string a7, .string a8] w fun e w' => e = .returned (.bool true) ∧ Grown w w' := by
  by_cases h : a0.size + a1.size + a2.size + a3.size + a4.size + a5.size + a6.size + a7.size + a8.size ≤ 1048576
  · by_cases hz : a1 = a4
    · subst hz
      have o1 : Hid (orInt (Lib.compareBytes a1.data.toList a1.data.toList) (Lib.compareBytes a0.data.toList a3.data.toList) = Lib.compareBytes a0.data.toList a3.data.toList) := if_pos (cmp_self _)
      have o2 : Hid (orInt (Lib.compareBytes a8.data.toList a8.data.toList) (Lib.compareBytes a0.data.toList a3.data.toList) = Lib.compareBytes a0.data.toList a3.data.toList) := if_pos (cmp_self _)
      go_enter Try.func4, Try.ntmps4
      go_wp2_with fail
      refine (bytes9_any _ _ _ _ _ _ _ _ _ _ w0 w1 w2 w3 w4 w5 w6 w7 w8).mono ?_
      rw [decide_eq_true h]
      rintro e w' ⟨rfl, rfl⟩
      go_wp2_with fail
      refine (zzByName_any _ _ _ _ _ _ _).mono ?_
      rw [o1.out]
      rintro e w3' ⟨rfl, g3⟩
      go_wp2_with fail
      refine (zzCmp_any _ _ _ w0 w3).mono ?_
      rintro e w2' ⟨rfl, g2⟩
      go_wp2_with fail
      refine (zzByName_any _ _ _ _ _ _ _).mono ?_
      rw [o2.out]
      rintro e w5' ⟨rfl, g5⟩
      go_wp2_with fail
      go_ret
      exact ⟨rfl, Grown.trans g3 (Grown.trans g2 g5)⟩
    · have hne : ¬ Lib.compareBytes a1.data.toList a4.data.toList = 0 := fun e => list_ne hz (cmp_zero _ _ e)
      have hz' : (a1.toList == a4.toList) = false := by rw [Lib.toList_data, Lib.toList_data]; simpa using list_ne hz
      have o1 : Hid (orInt (Lib.compareBytes a1.data.toList a4.data.toList) (Lib.compareBytes a0.data.toList a3.data.toList) = Lib.compareBytes a1.data.toList a4.data.toList) := if_neg hne
      have o2 : Hid (orInt (Lib.compareBytes a1.data.toList a4.data.toList) (Lib.compareBytes a6.data.toList a7.data.toList) = Lib.compareBytes a1.data.toList a4.data.toList) := if_neg hne
      clear hz hne
      go_enter Try.func4, Try.ntmps4
      go_wp2_with fail
      refine (bytes9_any _ _ _ _ _ _ _ _ _ _ w0 w1 w2 w3 w4 w5 w6 w7 w8).mono ?_
      rw [decide_eq_true h]
      rintro e w' ⟨rfl, rfl⟩
      go_wp2_with fail
      refine (zzByName_any _ _ _ _ _ _ _).mono ?_
      rw [o1.out]
      rintro e w3' ⟨rfl, g3⟩
      go_wp2_with fail
      refine (zzCmp_any _ _ _ w1 w4).mono ?_
      rintro e w2' ⟨rfl, g2⟩
      go_wp2_with fail
      refine (zzByName_any _ _ _ _ _ _ _).mono ?_
      rw [o2.out]
      rintro e w5' ⟨rfl, g5⟩
      go_wp2_with fail
      go_ret
      exact ⟨rfl, Grown.trans g3 (Grown.trans g2 g5)⟩
  · go_enter Try.func4, Try.ntmps4
    go_wp2_with fail
    refine (bytes9_any _ _ _ _ _ _ _ _ _ _ w0 w1 w2 w3 w4 w5 w6 w7 w8).mono ?_
    rw [decide_eq_false h]
    rintro e w' ⟨rfl, rfl⟩
    go_wp2_with fail
    go_ret
    exact ⟨rfl, Grown.refl _⟩

/-! ### THE ROW's STEP: WRITTEN OUT: LEAVE IT -/
set_option maxRecDepth 100000 in
theorem lifted (os : Os) (started : os.Started) (H : Type) (enc : TypeId × Value → H) :
    ReturnsInHanded {} Try.checked os 4 .any (Rows.fnByNameLetsIDsDecideOnlyOnEqualNamesSpec.pre6 enc Try.prog Try.f4 Rows.fnByNameLetsIDsDecideOnlyOnEqualNamesRow.domain false) (Rows.fnByNameLetsIDsDecideOnlyOnEqualNamesSpec.post enc Try.prog Try.f4 false true false false) := by
  refine returnsInHanded_of_change (C := Try.checked) own started (by kernel_rfl) Try.func4
    (ChangeSpec.witness6 (enc := enc) (C := Try.checked) false ⟨#[], #[.string ByteArray.empty, .string ByteArray.empty, .string ByteArray.empty, .string ByteArray.empty, .string ByteArray.empty, .string ByteArray.empty, .string ByteArray.empty, .string ByteArray.empty, .string ByteArray.empty], []⟩ 8 (by kernel_rfl) (by kernel_rfl) (by kernel_rfl) (by kernel_rfl)) ?_
  intro W base args ds gs before hval0 hW hcnd _
  have hval : ∀ (j : Nat) t v, Try.f4.params[j]? = some t → args[j]? = some v → Value.okWide Try.prog W .any base t v := hval0
  have hW' := hW
  obtain ⟨p, q, hA0, hV, rfl, hfz, hnd⟩ := hW
  have hA : DataW.TrodAll enc Try.prog W 0 (fun _ => true) true Try.f4.params.toList args.toList ds p := hA0
  rw [Try.params4] at hA hval
  obtain ⟨v0, vs0, d0, ds0, p0, q0, hargs, rfl, rfl, h0, r0⟩ := trodAll_cons hA
  obtain ⟨v1, vs1, d1, ds1, p1, q1, rfl, rfl, rfl, h1, r1⟩ := trodAll_cons r0
  obtain ⟨v2, vs2, d2, ds2, p2, q2, rfl, rfl, rfl, h2, r2⟩ := trodAll_cons r1
  obtain ⟨v3, vs3, d3, ds3, p3, q3, rfl, rfl, rfl, h3, r3⟩ := trodAll_cons r2
  obtain ⟨v4, vs4, d4, ds4, p4, q4, rfl, rfl, rfl, h4, r4⟩ := trodAll_cons r3
  obtain ⟨v5, vs5, d5, ds5, p5, q5, rfl, rfl, rfl, h5, r5⟩ := trodAll_cons r4
  obtain ⟨v6, vs6, d6, ds6, p6, q6, rfl, rfl, rfl, h6, r6⟩ := trodAll_cons r5
  obtain ⟨v7, vs7, d7, ds7, p7, q7, rfl, rfl, rfl, h7, r7⟩ := trodAll_cons r6
  obtain ⟨v8, vs8, d8, ds8, p8, q8, rfl, rfl, rfl, h8, r8⟩ := trodAll_cons r7
  obtain ⟨rfl, rfl, rfl⟩ := trodAll_nil r8
  obtain rfl : args = #[v0, v1, v2, v3, v4, v5, v6, v7, v8] := by cases args; simp_all
  obtain ⟨rfl, rfl⟩ := trodVars_none hV
  obtain ⟨a0, rfl, rfl, rfl, w0⟩ := open_string Try.underlying9 (hval 0 9 v0 rfl rfl) h0
  obtain ⟨a1, rfl, rfl, rfl, w1⟩ := open_string Try.underlying9 (hval 1 9 v1 rfl rfl) h1
  obtain ⟨a2, rfl, rfl, rfl, w2⟩ := open_string Try.underlying9 (hval 2 9 v2 rfl rfl) h2
  obtain ⟨a3, rfl, rfl, rfl, w3⟩ := open_string Try.underlying9 (hval 3 9 v3 rfl rfl) h3
  obtain ⟨a4, rfl, rfl, rfl, w4⟩ := open_string Try.underlying9 (hval 4 9 v4 rfl rfl) h4
  obtain ⟨a5, rfl, rfl, rfl, w5⟩ := open_string Try.underlying9 (hval 5 9 v5 rfl rfl) h5
  obtain ⟨a6, rfl, rfl, rfl, w6⟩ := open_string Try.underlying9 (hval 6 9 v6 rfl rfl) h6
  obtain ⟨a7, rfl, rfl, rfl, w7⟩ := open_string Try.underlying9 (hval 7 9 v7 rfl rfl) h7
  obtain ⟨a8, rfl, rfl, rfl, w8⟩ := open_string Try.underlying9 (hval 8 9 v8 rfl rfl) h8
  clear hA0 hval0
  simp only [List.append_nil] at hW'
  refine (walk a0 a1 a2 a3 a4 a5 a6 a7 a8 w0 w1 w2 w3 w4 w5 w6 w7 w8 W).mono fun e W' ⟨he, hg⟩ => ?_
  subst he
  exact ⟨_, rfl, post_of_same (pa := []) (pv := []) hW' (fun _ _ _ => (trodAll_cons_mk (shut_bool Try.underlying4 _) trodAll_mk0)) (fun sp _ => (trodAll_cons_mk (shut_string Try.underlying9 w0) (trodAll_cons_mk (shut_string Try.underlying9 w1) (trodAll_cons_mk (shut_string Try.underlying9 w2) (trodAll_cons_mk (shut_string Try.underlying9 w3) (trodAll_cons_mk (shut_string Try.underlying9 w4) (trodAll_cons_mk (shut_string Try.underlying9 w5) (trodAll_cons_mk (shut_string Try.underlying9 w6) (trodAll_cons_mk (shut_string Try.underlying9 w7) (trodAll_cons_mk (shut_string Try.underlying9 w8) trodAll_mk0)))))))))) (fun _ _ => rfl) rfl
    (hg.frame _) hg.2.1 (ok_one (by kernel_rfl) rfl (okWide_bool_mk Try.underlying4 _))⟩

theorem over : Rows.fnByNameLetsIDsDecideOnlyOnEqualNamesRow.holds Try.pinned (OpenSpec.ofChange Rows.fnByNameLetsIDsDecideOnlyOnEqualNamesSpec) :=
  OpenClaim.holds_of_wide 4 Try.f4 rfl rfl rfl rfl rfl rfl rfl ⟨rfl, rfl, rfl, rfl, rfl⟩ rfl rfl rfl rfl rfl (by kernel_rfl) Try.func4 (by kernel_rfl)
    (of_decide_eq_true (by kernel_rfl)) (by unfold Func.isWrapper; first | (rw [if_pos (by decide +kernel)]; kernel_rfl) | (rw [if_neg (by decide +kernel)]; exact ⟨rfl, rfl⟩))
    (fun os started H enc _ => lifted os started H enc)

/-- ████ THE STATEMENT ████ -/
theorem proved : Rows.FnByNameLetsIDsDecideOnlyOnEqualNamesSaid :=
  over
end Go.Proofs.Qxb6613706a.fnByNameLetsIDsDecideOnlyOnEqualNames
