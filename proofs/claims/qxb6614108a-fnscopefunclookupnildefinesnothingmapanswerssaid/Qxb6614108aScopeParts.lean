import Derived.Test.Qxb6614108aRows
import Derived.WalkKit
import Derived.ProofKit
import Derived.OpenShut
import Derived.ShutString
import Derived.ChangeOld
import Derived.Below
import Derived.Maps.OwnSet
import Derived.Maps.OwnOps
import Derived.Maps.StringElems
import Derived.Lib.Strings
import Derived.RegionTactic
namespace Go.Proofs.Qxb6614108a.fnScope
open Go.ChangeShapes Go.WideShapes Go.ChangeAt Go.RowKit
open Go.ChangeMaps (open_string shut_string)
open Go.Maps Go.WideMaps

/-- WHAT THE WALKS ARE TOLD OF A SLICE OF STRINGS THAT CAME IN: 'f i' is its element number i. -/
def Strs (w : World) (a : Option Addr) (len : Nat) (f : Nat → ByteArray) : Prop :=
  len ≤ maxLen ∧ (∀ i, i < len → (f i).size ≤ maxLen) ∧
    (len = 0 ∨ ∃ b off, a = some ⟨b, off, none⟩ ∧ ∀ i, i < len → w.cell? ⟨b, off + i, none⟩ = some (.string (f i)))

theorem fits_any (a : Option Addr) (len cap : Nat) (f : Nat → ByteArray) (l : Int) (w : World) (h : Strs w a len f) :
    Calls Try.prog 8 #[.slice a len cap, .int .i64 l] w fun e w' => (∃ z, e = .returned (.int .i64 z)) ∧ w' = w := by
  obtain ⟨hm, _, h⟩ := h
  unfold maxLen at hm
  by_cases hl : l < 0
  · go_enter Try.func8, Try.ntmps8
    go_wp2
    go_ret
    exact ⟨⟨_, rfl⟩, rfl⟩
  by_cases hn : 65536 < len
  · go_enter Try.func8, Try.ntmps8
    go_wp2
    go_ret
    exact ⟨⟨_, rfl⟩, rfl⟩
  obtain rfl | ⟨b, off, rfl, hc⟩ := h
  · go_enter Try.func8, Try.ntmps8
    go_wp2
    refine wp_loop_rounds 1 ?_
    rw [rounds_succ]
    go_wp2
    go_ret
    exact ⟨⟨_, rfl⟩, rfl⟩
  · go_enter Try.func8, Try.ntmps8
    go_wp2
    go_loop [1, 5] (fun t i => (∃ z, t = .int .i64 z) ∧ ∃ k : Nat, k ≤ len ∧ i = .int .i64 k) (fun _ i => len - (intOf i).toNat)
    case atStart => exact ⟨⟨_, rfl⟩, 0, Nat.zero_le _, rfl⟩
    case round =>
      obtain ⟨⟨z, rfl⟩, k, hk, rfl⟩ := hrel
      have hcell : k < len → w.cell? ⟨b, off + k, none⟩ = some (.string (f k)) := hc k
      clear hc
      by_cases hlt : k < len
      · go_wp2
        · go_ret
          exact ⟨⟨_, rfl⟩, rfl⟩
        · go_ret
          exact ⟨⟨_, rfl⟩, rfl⟩
        · go_round
          case rel => exact ⟨⟨_, rfl⟩, k + 1, by omega, by go_num⟩
          case measure => simp [intOf]; omega
      · go_wp2
        go_ret
        exact ⟨⟨_, rfl⟩, rfl⟩

theorem fit_any (s : ByteArray) (l : Int) (w : World) :
    Calls Try.prog 9 #[.string s, .int .i64 l] w fun e w' => (∃ z, e = .returned (.int .i64 z)) ∧ w' = w := by
  by_cases hl : l < 0
  · go_enter Try.func9, Try.ntmps9
    go_wp2
    go_ret
    exact ⟨⟨_, rfl⟩, rfl⟩
  by_cases hn : l < s.size
  · go_enter Try.func9, Try.ntmps9
    go_wp2
    go_ret
    exact ⟨⟨_, rfl⟩, rfl⟩
  · go_enter Try.func9, Try.ntmps9
    go_wp2
    go_ret
    exact ⟨⟨_, rfl⟩, rfl⟩

theorem pairs_any (a a' : Option Addr) (n c n' c' : Nat) (w : World) (_hn : n ≤ maxLen) (_hn' : n' ≤ maxLen) :
    Calls Try.prog 10 #[.slice a n c, .slice a' n' c'] w fun e w' => e = .returned (.int .i64 (min n n' : Nat)) ∧ w' = w := by
  unfold maxLen at *
  by_cases h : n' < n
  · have e : Hid (min n n' = n') := Nat.min_eq_right (by omega)
    go_enter Try.func10, Try.ntmps10
    go_wp2
    go_ret
    rw [e.out]
    exact ⟨rfl, rfl⟩
  · have e : Hid (min n n' = n) := Nat.min_eq_left (by omega)
    go_enter Try.func10, Try.ntmps10
    go_wp2
    go_ret
    rw [e.out]
    exact ⟨rfl, rfl⟩

theorem nil_nil (w : World) : (binOp .eql 34 .nilFunc .nilFunc).run Try.prog w = .ok (.bool true) w := by kernel_rfl

theorem lookNil_any (s : ByteArray) (w : World) :
    Calls Try.prog 12 #[.string s] w fun e w' => e = .returned (.tuple #[.string ByteArray.empty, .bool false]) ∧ w' = w := by
  have hn := nil_nil
  go_enter Try.func12, Try.ntmps12
  go_wp2
  go_ret2
  exact ⟨rfl, rfl⟩

theorem func_nil (c : Array Value) (w : World) : (binOp .eql 34 (.func (.func 16) #[] c) .nilFunc).run Try.prog w = .ok (.bool false) w := by kernel_rfl
theorem law9 : Keyed Try.prog 9 := string_keyed Try.underlying9
theorem zero9 (w : World) : (zeroValue 9).run Try.prog w = .ok (.string ByteArray.empty) w := by kernel_rfl

theorem lookMap_any (B n : Nat) (D : DataW Unit) (s : ByteArray) (w : World) (hs : s.size ≤ maxLen) (hown : w.ownsMap Try.prog 9 (plainElem Try.prog 9) B n D) :
    Calls Try.prog 13 #[.map (some B), .string s] w fun e w' =>
      (∃ v, e = .returned (.tuple #[.string v, .bool (Maps.has D (.string s.data.toList))]) ∧ D.atKey (.string s.data.toList) (.lit (.string [])) = .lit (.string v.data.toList)) ∧ Below w.heap.size w w' := by
  have hn := func_nil
  obtain ⟨v, ps, hrun, hv⟩ := (hown.alloc (.cells #[.map (some B)] 29)).look_ok law9 Try.underlying29 (zero9 _) (plainElem_string Try.underlying9 (by decide)) (keyOf_string_mk Try.underlying9 hs)
  obtain ⟨x, rfl, hx, hxl⟩ := plainElem_string_inv Try.underlying9 hv
  have hx1 : Hid (D.atKey (.string s.data.toList) (.lit (.string [])) = .lit (.string x.data.toList)) := congrArg Prod.fst hx
  clear hx hv
  go_enter Try.func13, Try.ntmps13
  go_wp2
  go_ret2
  exact ⟨⟨x, rfl, hx1.out⟩, (Below.refl _ _).alloc (Nat.le_refl _) _⟩

/-- the last of the first n pairs whose key is 'name' -/
def last (kf vf : Nat → ByteArray) (name : ByteArray) : Nat → ByteArray × Bool
  | 0 => (ByteArray.empty, false)
  | n + 1 => if (kf n).toList == name.toList then (vf n, true) else last kf vf name n

theorem ret_last {v : ByteArray} {b : Bool} {p : ByteArray × Bool} (h : p = (v, b)) : Ending.returned (.tuple #[.string v, .bool b]) = .returned (.tuple #[.string p.1, .bool p.2]) := by rw [h]

theorem last_any (a a' : Option Addr) (len c len' c' n : Nat) (kf vf : Nat → ByteArray) (name : ByteArray) (w : World) (hk : Strs w a len kf) (hv : Strs w a' len' vf) (hn : n ≤ len) (hn' : n ≤ len') :
    Calls Try.prog 11 #[.slice a len c, .slice a' len' c', .int .i64 n, .string name] w fun e w' => e = .returned (.tuple #[.string (last kf vf name n).1, .bool (last kf vf name n).2]) ∧ w' = w := by
  obtain ⟨hm, _, h⟩ := hk
  obtain ⟨hm', _, h'⟩ := hv
  unfold maxLen at hm hm'
  by_cases h0 : n = 0
  · subst h0
    go_enter Try.func11, Try.ntmps11
    go_wp2
    refine wp_loop_rounds 1 ?_
    rw [rounds_succ]
    go_wp2
    go_ret2
    exact ⟨rfl, rfl⟩
  · rcases h with h | ⟨b, off, rfl, hc⟩
    · omega
    rcases h' with h' | ⟨b', off', rfl, hc'⟩
    · omega
    go_enter Try.func11, Try.ntmps11
    go_wp2
    go_loop [10] (fun i => ∃ k : Nat, k ≤ n ∧ i = .int .i64 ((k : Int) - 1) ∧ Hid (last kf vf name n = last kf vf name k)) (fun i => (intOf i + 1).toNat)
    case atStart => exact ⟨n, Nat.le_refl _, rfl, rfl⟩
    case round =>
      obtain ⟨k, hk, rfl, hl⟩ := hrel
      rcases k with _ | k
      · go_wp2
        go_ret2
        exact ⟨ret_last hl.out, rfl⟩
      · have e1 : (((k + 1 : Nat) : Int) - 1) = (k : Int) := by omega
        have hcell := hc k (by omega)
        have hcell' := hc' k (by omega)
        have hi1 : (k : Int) < (len : Int) := by omega
        have hi2 : (k : Int) < (len' : Int) := by omega
        have hl1 : Hid ((kf k).toList == name.toList → last kf vf name n = (vf k, true)) := fun h => by rw [hl.out]; exact if_pos h
        have hl2 : Hid (((kf k).toList == name.toList) = false → last kf vf name n = last kf vf name k) := fun h => by rw [hl.out]; exact if_neg (by rw [h]; simp)
        clear hc hc' hl
        rw [e1]
        clear e1
        by_cases hq : ((kf k).toList == name.toList) = true
        · go_wp2
          go_ret2
          exact ⟨ret_last (hl1.out hq), rfl⟩
        · have hq' : ((kf k).toList == name.toList) = false := by simpa using hq
          go_wp2
          go_round
          case rel => exact ⟨k, by omega, rfl, hl2.out hq'⟩
          case measure => simp [intOf]

end Go.Proofs.Qxb6614108a.fnScope
