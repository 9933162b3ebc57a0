import Derived.Test.Qxb6614108aScopeParts
namespace Go.Proofs.Qxb6614108a.fnScope
open Go.ChangeShapes Go.WideShapes Go.ChangeAt Go.RowKit
open Go.ChangeMaps (open_string shut_string)
open Go.Maps Go.WideMaps
/-! ### zzBytes: whatever it answers -/
def AnyBool (e : Ending) : Prop := ∃ x : Bool, e = .returned (.bool x)

set_option maxHeartbeats 2000000 in
theorem bytes_any (a a' : Option Addr) (len c len' c' : Nat) (kf vf : Nat → ByteArray) (name : ByteArray) (w : World) (hk : Strs w a len kf) (hv : Strs w a' len' vf) :
    Calls Try.prog 7 #[.slice a len c, .slice a' len' c', .string name] w fun e w' => AnyBool e ∧ w' = w := by
  obtain ⟨hm, _, h⟩ := hk
  obtain ⟨hm', _, h'⟩ := hv
  unfold maxLen at hm hm'
  by_cases c1 : 1048576 < len
  · go_enter Try.func7, Try.ntmps7
    go_wp2
    go_ret
    exact ⟨⟨_, rfl⟩, rfl⟩
  go_enter Try.func7, Try.ntmps7
  go_wp2
  go_loop [7, 8] (fun t i => (∃ z, t = .int .i64 z) ∧ ∃ k : Nat, k ≤ len ∧ i = .int .i64 k) (fun _ i => len - (intOf i).toNat)
  case atStart => exact ⟨⟨_, rfl⟩, 0, Nat.zero_le _, rfl⟩
  case round =>
    obtain ⟨⟨z, rfl⟩, k, hk, rfl⟩ := hrel
    by_cases hlt : k < len
    · rcases h with h | ⟨b, off, rfl, hc⟩
      · omega
      have hcell := hc k hlt
      clear hc
      go_wp2
      · go_ret
        exact ⟨⟨_, rfl⟩, rfl⟩
      · go_ret
        exact ⟨⟨_, rfl⟩, rfl⟩
      · go_round
        case rel => exact ⟨⟨_, rfl⟩, k + 1, by omega, by go_num⟩
        case measure => simp [intOf]; omega
    · by_cases c2 : 1048576 < len'
      · go_wp2
        go_ret
        exact ⟨⟨_, rfl⟩, rfl⟩
      go_wp2
      · go_ret
        exact ⟨⟨_, rfl⟩, rfl⟩
      go_loop [7, 9] (fun t i => (∃ z, t = .int .i64 z) ∧ ∃ k : Nat, k ≤ len' ∧ i = .int .i64 k) (fun _ i => len' - (intOf i).toNat)
      case atStart => exact ⟨⟨_, rfl⟩, 0, Nat.zero_le _, rfl⟩
      case round =>
        obtain ⟨⟨z, rfl⟩, k, hk, rfl⟩ := hrel
        by_cases hlt : k < len'
        · rcases h' with h' | ⟨b, off, rfl, hc⟩
          · omega
          have hcell := hc k hlt
          clear hc
          go_wp2
          · go_ret
            exact ⟨⟨_, rfl⟩, rfl⟩
          · go_ret
            exact ⟨⟨_, rfl⟩, rfl⟩
          · go_round
            case rel => exact ⟨⟨_, rfl⟩, k + 1, by omega, by go_num⟩
            case measure => simp [intOf]; omega
        · go_wp2
          all_goals (go_ret; exact ⟨⟨_, rfl⟩, rfl⟩)

/-! ### the plain law -/
def keyL (f : Nat → ByteArray) (k : Nat) : Lit := .string (f k).data.toList
/-- what the map reads as after k rounds -/
def mapD (kf vf : Nat → ByteArray) : Nat → DataW Unit
  | 0 => .map []
  | k + 1 => (mapD kf vf k).put (keyL kf k) (.lit (.string (vf k).data.toList))

theorem mapD_isMap (kf vf : Nat → ByteArray) : ∀ k, IsMap (mapD kf vf k)
  | 0 => isMap_empty
  | k + 1 => (mapD_isMap kf vf k).put _ _

theorem mapD_last (kf vf : Nat → ByteArray) (name : ByteArray) : ∀ k,
    Maps.has (mapD kf vf k) (.string name.data.toList) = (last kf vf name k).2 ∧
    (mapD kf vf k).atKey (.string name.data.toList) (.lit (.string [])) = .lit (.string (last kf vf name k).1.data.toList)
  | 0 => ⟨rfl, rfl⟩
  | k + 1 => by
    obtain ⟨h1, h2⟩ := mapD_last kf vf name k
    unfold mapD last
    by_cases hq : ((kf k).toList == name.toList) = true
    · have e : (Lit.string name.data.toList) = keyL kf k := by
        unfold keyL
        rw [Lib.toList_data, Lib.toList_data] at hq
        rw [eq_of_beq hq]
      rw [if_pos hq, e]
      exact ⟨has_put_same (mapD_isMap kf vf k) (show WideAt.IsKeyLit (keyL kf k) from trivial) _, atKey_put_same (mapD_isMap kf vf k) (show WideAt.IsKeyLit (keyL kf k) from trivial) _ _⟩
    · have e : (Lit.string name.data.toList) ≠ keyL kf k := by
        intro h
        apply hq
        rw [Lib.toList_data, Lib.toList_data]
        injection h with h
        rw [h]
        exact beq_self_eq_true _
      rw [if_neg hq]
      exact ⟨(has_put_other e _).trans h1, (atKey_put_other e _ _).trans h2⟩
end Go.Proofs.Qxb6614108a.fnScope
