import Derived.Test.Qxb6613706aRows
import Derived.WalkKit
import Derived.ProofKit
import Derived.OpenShut
import Derived.ShutString
import Derived.Lib.Bytealg
import Derived.Deep.RegionHeld3
import Derived.Deep.QuietTactic
import Derived.BigQuiet
namespace Go.Proofs.Qxb6613706a
open Go.ChangeShapes Go.WideShapes Go.ChangeAt Go.RowKit
open Go.ChangeMaps (open_string shut_string)

theorem compareString_any (a b : ByteArray) (w : World) :
    Calls Try.prog 12 #[.string a, .string b] w fun e w' => e = .returned (.int .i64 (Lib.compareBytes a.data.toList b.data.toList)) ∧ w' = w := by
  go_enter Try.func12, Try.ntmps12
  go_wp2
  rw [run_callFunc_extern Try.func13 (by kernel_rfl) (by kernel_rfl) (by kernel_rfl) (e := Extern.BytealgCompare.compare) (by kernel_rfl), Lib.run_compareString]
  simp only [Result.andThen]
  rw [Oper.upon_value]
  go_wp2
  go_ret
  exact ⟨rfl, rfl⟩

theorem compare_any (a b : ByteArray) (w : World) :
    Calls Try.prog 11 #[.string a, .string b] w fun e w' => e = .returned (.int .i64 (Lib.compareBytes a.data.toList b.data.toList)) ∧ w' = w := by
  go_enter Try.func11, Try.ntmps11
  go_wp2_with (go_at_call 12; refine (compareString_any _ _ _).mono ?_; rintro e w' ⟨rfl, rfl⟩)
  go_ret
  exact ⟨rfl, rfl⟩

/-- cmp.Or(x, y) -/
def orInt (x y : Int) : Int := if x = 0 then y else x

theorem or_any (g : Nat) (x y : Int) (w : World) (h0 : w.cell? ⟨g, 0, none⟩ = some (.int .i64 x)) (h1 : w.cell? ⟨g, 1, none⟩ = some (.int .i64 y)) :
    Calls Try.prog 10 #[.slice (some ⟨g, 0, none⟩) 2 2] w fun e w' => e = .returned (.int .i64 (orInt x y)) ∧ w' = w := by
  by_cases hx : x = 0
  · by_cases hy : y = 0
    · have e1 : Hid (orInt x y = 0) := by unfold orInt Hid; rw [if_pos hx, hy]
      subst hx; subst hy
      go_enter Try.func10, Try.ntmps10
      go_wp2
      refine wp_loop_rounds 3 ?_
      rw [rounds_succ]
      go_wp2
      rw [rounds_succ]
      go_wp2
      rw [rounds_succ]
      go_wp2
      go_ret
      rw [e1.out]
      exact ⟨rfl, rfl⟩
    · have e1 : Hid (orInt x y = y) := by unfold orInt Hid; rw [if_pos hx]
      have hy' : (y != 0) = true := by simpa using hy
      subst hx
      go_enter Try.func10, Try.ntmps10
      go_wp2
      refine wp_loop_rounds 2 ?_
      rw [rounds_succ]
      go_wp2
      rw [rounds_succ]
      go_wp2
      go_ret
      rw [e1.out]
      exact ⟨rfl, rfl⟩
  · have e1 : Hid (orInt x y = x) := by unfold orInt Hid; rw [if_neg hx]
    have hx' : (x != 0) = true := by simpa using hx
    go_enter Try.func10, Try.ntmps10
    go_wp2
    refine wp_loop_rounds 1 ?_
    rw [rounds_succ]
    go_wp2
    go_ret
    rw [e1.out]
    exact ⟨rfl, rfl⟩

theorem byName_any (ai an ak bi bn bk : ByteArray) (w : World) :
    Calls Try.prog 9 #[.agg #[.string ai, .string an, .string ak], .agg #[.string bi, .string bn, .string bk]] w fun e w' =>
      e = .returned (.int .i64 (orInt (Lib.compareBytes an.data.toList bn.data.toList) (Lib.compareBytes ai.data.toList bi.data.toList))) ∧ Grown w w' := by
  go_enter Try.func9, Try.ntmps9
  go_wp2
  go_region_held3 (fun w' => w'.cell? ⟨w.heap.size, 0, none⟩ = some (.string ai) ∧ w'.cell? ⟨w.heap.size, 1, none⟩ = some (.string an) ∧ w'.cell? ⟨w.heap.size + 1, 0, none⟩ = some (.string bi) ∧ w'.cell? ⟨w.heap.size + 1, 1, none⟩ = some (.string bn)) (go_keep)
    (first | (go_at_call 11; refine (compare_any _ _ _).mono ?_; rintro e w' ⟨rfl, rfl⟩) | (go_at_call 10; refine (or_any _ (Lib.compareBytes an.data.toList bn.data.toList) (Lib.compareBytes ai.data.toList bi.data.toList) _ ?_ ?_).mono ?_; (go_simp); (go_simp); rintro e w' ⟨rfl, rfl⟩))
  go_wp2
  go_ret
  exact ⟨rfl, ((((Grown.refl _).alloc _ _).alloc _ _).alloc _ _).drew⟩

theorem zzByName_any (ai an ak bi bn bk : ByteArray) (w : World) :
    Calls Try.prog 7 #[.string ai, .string an, .string ak, .string bi, .string bn, .string bk] w fun e w' =>
      e = .returned (.int .i64 (orInt (Lib.compareBytes an.data.toList bn.data.toList) (Lib.compareBytes ai.data.toList bi.data.toList))) ∧ Grown w w' := by
  go_enter Try.func7, Try.ntmps7
  go_wp2_with (go_at_call 9; refine (byName_any _ _ _ _ _ _ _).mono ?_; rintro e w' ⟨rfl, hg⟩)
  go_ret
  exact ⟨rfl, hg⟩

/-! ### zzCmp -/
theorem Grown.trans {a b c : World} (h : Grown a b) (k : Grown b c) : Grown a c :=
  ⟨World.keptBut_trans h.1 k.1, fun x => (k.2.1 x).trans (h.2.1 x), Nat.le_trans h.2.2 k.2.2⟩

theorem drop_get (s : ByteArray) (k : Nat) (h : k < s.size) : s.data.toList.drop k = s[k] :: s.data.toList.drop (k + 1) := by
  rw [List.drop_eq_getElem_cons (by simpa using h)]; rfl

theorem cmp_lt (a b : ByteArray) (k : Nat) (ha : k < a.size) (hb : k < b.size) (h : Lib.compareBytes a.data.toList b.data.toList = Lib.compareBytes (a.data.toList.drop k) (b.data.toList.drop k))
    (hl : a[k].toNat < b[k].toNat) : Lib.compareBytes a.data.toList b.data.toList = -1 := by
  rw [h, drop_get a k ha, drop_get b k hb, Lib.compareBytes, if_pos (UInt8.lt_iff_toNat_lt.2 (by omega))]

theorem cmp_gt (a b : ByteArray) (k : Nat) (ha : k < a.size) (hb : k < b.size) (h : Lib.compareBytes a.data.toList b.data.toList = Lib.compareBytes (a.data.toList.drop k) (b.data.toList.drop k))
    (hl : b[k].toNat < a[k].toNat) : Lib.compareBytes a.data.toList b.data.toList = 1 := by
  rw [h, drop_get a k ha, drop_get b k hb, Lib.compareBytes, if_neg (fun h => by have := UInt8.lt_iff_toNat_lt.1 h; omega), if_pos (UInt8.lt_iff_toNat_lt.2 (by omega))]

theorem cmp_eq (a b : ByteArray) (k : Nat) (ha : k < a.size) (hb : k < b.size) (h : Lib.compareBytes a.data.toList b.data.toList = Lib.compareBytes (a.data.toList.drop k) (b.data.toList.drop k))
    (hl : ¬ a[k].toNat < b[k].toNat) (hg : ¬ b[k].toNat < a[k].toNat) :
    Lib.compareBytes a.data.toList b.data.toList = Lib.compareBytes (a.data.toList.drop (k + 1)) (b.data.toList.drop (k + 1)) := by
  rw [h, drop_get a k ha, drop_get b k hb, Lib.compareBytes, if_neg (fun h => by have := UInt8.lt_iff_toNat_lt.1 h; omega), if_neg (fun h => by have := UInt8.lt_iff_toNat_lt.1 h; omega)]

theorem cmp_end_lt (a b : ByteArray) (k : Nat) (hk : k = a.size) (hb : a.size < b.size) (h : Lib.compareBytes a.data.toList b.data.toList = Lib.compareBytes (a.data.toList.drop k) (b.data.toList.drop k)) :
    Lib.compareBytes a.data.toList b.data.toList = -1 := by
  rw [h, drop_get b k (by omega), List.drop_eq_nil_of_le (by rw [hk]; exact Nat.le_refl _), Lib.compareBytes]

theorem cmp_end_gt (a b : ByteArray) (k : Nat) (hk : k = b.size) (hb : b.size < a.size) (h : Lib.compareBytes a.data.toList b.data.toList = Lib.compareBytes (a.data.toList.drop k) (b.data.toList.drop k)) :
    Lib.compareBytes a.data.toList b.data.toList = 1 := by
  rw [h, drop_get a k (by omega), show b.data.toList.drop k = [] from List.drop_eq_nil_of_le (by rw [hk]; exact Nat.le_refl _), Lib.compareBytes]

theorem cmp_end_eq (a b : ByteArray) (k : Nat) (hk : k = b.size) (hb : b.size = a.size) (h : Lib.compareBytes a.data.toList b.data.toList = Lib.compareBytes (a.data.toList.drop k) (b.data.toList.drop k)) :
    Lib.compareBytes a.data.toList b.data.toList = 0 := by
  rw [h, show b.data.toList.drop k = [] from List.drop_eq_nil_of_le (by rw [hk]; exact Nat.le_refl _), show a.data.toList.drop k = [] from List.drop_eq_nil_of_le (by rw [hk, hb]; exact Nat.le_refl _), Lib.compareBytes]

theorem ret_int {k : IntKind} {a b : Int} (h : a = b) : Ending.returned (.int k a) = .returned (.int k b) := by rw [h]

set_option maxHeartbeats 1000000 in
theorem zzCmp_any (a b : ByteArray) (w : World) (ha : a.size ≤ maxLen) (hb : b.size ≤ maxLen) :
    Calls Try.prog 6 #[.string a, .string b] w fun e w' => e = .returned (.int .i64 (Lib.compareBytes a.data.toList b.data.toList)) ∧ Grown w w' := by
  unfold maxLen at ha hb
  by_cases hlt : b.size < a.size
  · go_enter Try.func6, Try.ntmps6
    go_wp2
    go_loopw [6] (fun i wr => ∃ k : Nat, k ≤ b.size ∧ i = .int .i64 k ∧ Hid (Lib.compareBytes a.data.toList b.data.toList = Lib.compareBytes (a.data.toList.drop k) (b.data.toList.drop k)) ∧ Grown w wr) (fun i _ => b.size - (intOf i).toNat)
    case atStart => exact ⟨0, Nat.zero_le _, rfl, rfl, Grown.refl _⟩
    case round =>
      obtain ⟨k, hk, rfl, hc, hg⟩ := hrel
      by_cases hkb : k < b.size
      · have hi1 : (k : Int) < (a.size : Int) := by omega
        have hi2 : (k : Int) < (b.size : Int) := by omega
        have ka : k < a.size := by omega
        have kb : k < b.size := by omega
        go_wp2
        go_quiet (fail)
        go_wp2
        · go_ret
          exact ⟨ret_int (cmp_lt a b k ka kb hc.out ‹_›).symm, hg⟩
        · go_quiet (fail)
          go_wp2
          · go_ret
            exact ⟨ret_int (cmp_gt a b k ka kb hc.out ‹_›).symm, hg⟩
          · go_roundw
            case rel => exact ⟨k + 1, by omega, by go_num, cmp_eq a b k ka kb hc.out ‹_› ‹_›, hg⟩
            case measure => simp [intOf]; omega
      · go_wp2
        go_ret
        exact ⟨ret_int (cmp_end_gt a b k (by omega) hlt hc.out).symm, hg⟩
  · go_enter Try.func6, Try.ntmps6
    go_wp2
    go_loopw [6] (fun i wr => ∃ k : Nat, k ≤ a.size ∧ i = .int .i64 k ∧ Hid (Lib.compareBytes a.data.toList b.data.toList = Lib.compareBytes (a.data.toList.drop k) (b.data.toList.drop k)) ∧ Grown w wr) (fun i _ => a.size - (intOf i).toNat)
    case atStart => exact ⟨0, Nat.zero_le _, rfl, rfl, Grown.refl _⟩
    case round =>
      obtain ⟨k, hk, rfl, hc, hg⟩ := hrel
      by_cases hkb : k < a.size
      · have hi1 : (k : Int) < (a.size : Int) := by omega
        have hi2 : (k : Int) < (b.size : Int) := by omega
        have ka : k < a.size := by omega
        have kb : k < b.size := by omega
        go_wp2
        go_quiet (fail)
        go_wp2
        · go_ret
          exact ⟨ret_int (cmp_lt a b k ka kb hc.out ‹_›).symm, hg⟩
        · go_quiet (fail)
          go_wp2
          · go_ret
            exact ⟨ret_int (cmp_gt a b k ka kb hc.out ‹_›).symm, hg⟩
          · go_roundw
            case rel => exact ⟨k + 1, by omega, by go_num, cmp_eq a b k ka kb hc.out ‹_› ‹_›, hg⟩
            case measure => simp [intOf]; omega
      · by_cases he : a.size < b.size
        · go_wp2
          go_ret
          exact ⟨ret_int (cmp_end_lt a b k (by omega) he hc.out).symm, hg⟩
        · go_wp2
          go_ret
          exact ⟨ret_int (cmp_end_eq a b k (by omega) (by omega) hc.out).symm, hg⟩
end Go.Proofs.Qxb6613706a
