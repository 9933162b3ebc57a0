import Derived.Test.Qxb6614108aScopePlain
import Derived.WalkSpells
namespace Go.Proofs.Qxb6614108a.fnScope
open Go.ChangeShapes Go.WideShapes Go.ChangeAt Go.RowKit
open Go.ChangeMaps (open_string shut_string)
open Go.Maps Go.WideMaps

theorem last_false (kf vf : Nat → ByteArray) (name : ByteArray) : ∀ k, (last kf vf name k).2 = false → (last kf vf name k).1 = ByteArray.empty
  | 0, _ => rfl
  | k + 1, h => by
    unfold last at h ⊢
    by_cases hq : ((kf k).toList == name.toList) = true
    · rw [if_pos hq] at h; cases h
    · rw [if_neg hq] at h ⊢; exact last_false kf vf name k h

theorem bytes_ext {a b : ByteArray} (h : a.data.toList = b.data.toList) : a = b := by
  cases a; cases b; congr 1; exact Array.toList_inj.1 h

theorem Strs.later {w w' : World} {a : Option Addr} {len : Nat} {f : Nat → ByteArray} (h : Strs w a len f) (hb : Below w.heap.size w w') : Strs w' a len f := by
  obtain ⟨h1, h2, h3⟩ := h
  refine ⟨h1, h2, ?_⟩
  rcases h3 with h | ⟨b, off, ha, hc⟩
  · exact .inl h
  · exact .inr ⟨b, off, ha, fun i hi => cell_later hb (hc i hi)⟩

theorem pairs_min (a a' : Option Addr) (n c n' c' N : Nat) (w : World) (hn : n ≤ maxLen) (hn' : n' ≤ maxLen) (hN : Hid (min n n' = N)) :
    Calls Try.prog 10 #[.slice a n c, .slice a' n' c'] w fun e w' => e = .returned (.int .i64 N) ∧ w' = w := by
  have h := pairs_any a a' n c n' c' w hn hn'
  rw [hN.out] at h
  exact h

set_option maxHeartbeats 2000000 in
theorem walk4 (a a' : Option Addr) (len c len' c' : Nat) (kf vf : Nat → ByteArray) (name : ByteArray) (w : World) (hk : Strs w a len kf) (hv : Strs w a' len' vf) (hname : name.size ≤ maxLen) :
    Calls Try.prog 4 #[.slice a len c, .slice a' len' c', .string name] w fun e w' => e = .returned (.bool true) ∧ Below w.heap.size w w' := by
  have hm := hk.1
  have hm' := hv.1
  unfold maxLen at hm hm'
  obtain ⟨N, hN⟩ : ∃ N, Hid (min len len' = N) := ⟨_, rfl⟩
  have hN1 : N ≤ len := by have := hN.out; omega
  have hN2 : N ≤ len' := by have := hN.out; omega
  have hmm := @run_makeMap Try.prog
  go_enter Try.func4, Try.ntmps4
  go_wp2_with fail
  refine (bytes_any _ _ _ _ _ _ _ _ _ _ hk hv).mono ?_
  rintro e w' ⟨⟨x, rfl⟩, hw⟩
  obtain rfl := hw.symm
  cases x
  · go_wp2_with fail
    go_ret
    exact ⟨rfl, Below.refl _ _⟩
  go_wp2_with fail
  refine (fits_any _ _ _ _ _ _ hk).mono ?_
  rintro e w' ⟨⟨z, rfl⟩, hw⟩
  obtain rfl := hw.symm
  go_wp2_with fail
  refine (fits_any _ _ _ _ _ _ hv).mono ?_
  rintro e w' ⟨⟨z', rfl⟩, hw⟩
  obtain rfl := hw.symm
  go_wp2_with fail
  refine (fit_any _ _ _).mono ?_
  rintro e w' ⟨⟨y, rfl⟩, hw⟩
  obtain rfl := hw.symm
  by_cases hy : y < 0
  · go_wp2_with fail
    go_ret
    exact ⟨rfl, Below.refl _ _⟩
  go_wp2_with fail
  refine (pairs_min _ _ _ _ _ _ _ _ hk.1 hv.1 hN).mono ?_
  rintro e w' ⟨rfl, hw⟩
  obtain rfl := hw.symm
  go_wp2_with fail
  go_loopw [10] (fun i wr => ∃ k : Nat, k ≤ N ∧ i = .int .i64 k ∧ wr.ownsMap Try.prog 9 (plainElem Try.prog 9) w.heap.size k (mapD kf vf k) ∧ Below w.heap.size w wr) (fun i _ => N - (intOf i).toNat)
  case atStart => exact ⟨0, Nat.zero_le _, rfl, World.ownsMap_made _ _ _ _, (Below.refl _ _).alloc (Nat.le_refl _) _⟩
  case round =>
    obtain ⟨k, hkN, rfl, hown, hbel⟩ := hrel
    by_cases hlt : k < N
    · have hkk := hk.2.1 k (by omega)
      have hvk := hv.2.1 k (by omega)
      have hB := hown.lt
      obtain ⟨w1, hrun, hown1, hgrow⟩ := hown.drew.update law9 Try.underlying29 (by unfold maxLen; omega) (keyOf_string_mk Try.underlying9 hkk) (plainElem_string Try.underlying9 hvk)
      have hown2 : Hid _ := hown1
      have hgrow2 : Hid _ := hgrow
      rcases hk.2.2 with h | ⟨b, off, rfl, hc⟩
      · omega
      rcases hv.2.2 with h | ⟨b', off', rfl, hc'⟩
      · omega
      have e1 := cell_later hbel (hc k (by omega))
      have e2 := cell_later hbel (hc' k (by omega))
      clear hc hc' hown1 hgrow
      have hi1 : (k : Int) < (len : Int) := by omega
      have hi2 : (k : Int) < (len' : Int) := by omega
      go_wp2_with fail
      go_region
      go_wp2_with fail
      go_roundw
      case rel => exact ⟨k + 1, by omega, by go_num, hown2.out, hbel.drew.grown hgrow2.out (Nat.le_of_lt hB) (fun j hj => by cases hj; exact Nat.le_refl _)⟩
      case measure => simp [intOf]; omega
    · have hkeq : k = N := by omega
      subst hkeq
      have hh : Hid _ := mapD_last kf vf name k
      have hf : Hid _ := last_false kf vf name k
      go_wp2_with fail
      refine (last_any _ _ _ _ _ _ _ kf vf name _ (hk.later hbel) (hv.later hbel) hN1 hN2).mono ?_
      generalize hL : last kf vf name k = L at *
      obtain ⟨x, ok⟩ := L
      clear hL
      rintro e w' ⟨rfl, hw⟩
      obtain rfl := hw.symm
      go_wp2_with fail
      refine (lookNil_any _ _).mono ?_
      rintro e w' ⟨rfl, hw⟩
      obtain rfl := hw.symm
      go_wp2_with fail
      refine (lookMap_any _ _ _ _ _ hname hown).mono ?_
      rw [hh.out.1, hh.out.2]
      rintro e w' ⟨⟨v, rfl, hv2⟩, hb2⟩
      obtain rfl : x = v := bytes_ext (by injection hv2 with h; injection h)
      cases ok
      · obtain rfl : x = ByteArray.empty := hf.out rfl
        go_wp2_with fail
        go_ret
        exact ⟨rfl, hbel.trans (hb2.mono (Nat.le_of_lt hown.lt))⟩
      · go_wp2_with fail
        all_goals (go_ret; exact ⟨rfl, hbel.trans (hb2.mono (Nat.le_of_lt hown.lt))⟩)
end Go.Proofs.Qxb6614108a.fnScope
