import Derived.Test.Qxb6608983aMem
set_option linter.unusedVariables false
namespace Go.Proofs.Qxb6608983a
open Go.ChangeShapes Go.WideShapes Go.ChangeAt Go.RowKit
open G (upd upd_same upd_other)

theorem size_setCell (w : World) (a : Addr) (v : Value) : (w.setCell a v).heap.size = w.heap.size := by simp [World.setCell]

theorem drews (w : World) (a b : Nat) : ∃ nd, (w.drewN a).drewN b = w.drewN nd := ⟨a + b, by simp⟩

def AnyBool (e : Ending) : Prop := ∃ x : Bool, e = .returned (.bool x)

theorem bytes7_any (a0 a1 a2 a3 : Option Addr) (n0 c0 n1 c1 n2 c2 n3 c3 : Nat) (p l m : Int) (w : World) :
    Calls Try.prog 30 #[.slice a0 n0 c0, .slice a1 n1 c1, .slice a2 n2 c2, .slice a3 n3 c3, .int .i64 p, .int .i64 l, .int .i64 m] w fun e w' => AnyBool e ∧ w' = w := by
  go_enter Try.func30, Try.ntmps30
  go_wp2
  all_goals (go_ret; exact ⟨⟨_, rfl⟩, rfl⟩)

theorem bytes8_any (a0 a1 a2 a3 : Option Addr) (n0 c0 n1 c1 n2 c2 n3 c3 : Nat) (p q l m : Int) (w : World) :
    Calls Try.prog 39 #[.slice a0 n0 c0, .slice a1 n1 c1, .slice a2 n2 c2, .slice a3 n3 c3, .int .i64 p, .int .i64 q, .int .i64 l, .int .i64 m] w fun e w' => AnyBool e ∧ w' = w := by
  go_enter Try.func39, Try.ntmps39
  go_wp2
  all_goals (go_ret; exact ⟨⟨_, rfl⟩, rfl⟩)

/-- zzCloneBools at a slice that is not empty -/
theorem clone_any (a : Option Addr) (n c : Nat) (f : Nat → Bool) (w : World) (hn : n ≤ 4096) (h1 : 1 ≤ n) (h : Bools w a n f) :
    Calls Try.prog 13 #[.slice a n c] w fun e w' => e = .returned (.slice (some ⟨w.heap.size, 0, none⟩) n n) ∧ BRow w' w.heap.size n f ∧ Below w.heap.size w w' ∧ w'.heap.size = w.heap.size + 1 := by
  have q23 : ∀ (w : World) (a : Option Addr) (n c n' c' : Nat), (binOp .eql 23 (.slice a n c) (.slice none n' c')).run Try.prog w = .ok (.bool a.isNone) w := fun w a n c n' c' => Lib.run_eql_slice_nil w _ _ a n c n' c' Try.underlying23
  have hmk := make_bools n (by omega)
  rcases h with h | ⟨b, off, rfl, hc⟩
  · omega
  have hbl := World.block_lt_of_cell? _ _ (hc 0 (by omega))
  go_enter Try.func13, Try.ntmps13
  go_wp2
  go_loopw [4] (fun i wr => ∃ k : Nat, k ≤ n ∧ i = .int .i64 k ∧ (∃ f', BRow wr w.heap.size n f' ∧ ∀ j, j < k → f' j = f j) ∧ Below w.heap.size w wr ∧ wr.heap.size = w.heap.size + 1) (fun i _ => n - (intOf i).toNat)
  case atStart => exact ⟨0, Nat.zero_le _, rfl, ⟨_, brow_made w n, fun j hj => absurd hj (Nat.not_lt_zero _)⟩, (Below.refl _ _).alloc (Nat.le_refl _) _, by simp⟩
  case round =>
    obtain ⟨k, hk, rfl, ⟨f', hrow, hf'⟩, hbel, hsz⟩ := hrel
    by_cases hlt : k < n
    · have e1 := cell_later hbel (hc k hlt)
      have e2 := hrow.cell hlt
      have e3 := hrow.free k
      have hi1 : (k : Int) < (n : Int) := by omega
      have hrow2 : Hid _ := hrow.set hlt (f k)
      have hsz2 : Hid (wr.heap.size = w.heap.size + 1) := hsz
      clear hc hsz
      go_wp2
      go_roundw
      case rel =>
        refine ⟨k + 1, by omega, by go_num, ⟨_, hrow2.out, fun j hj => ?_⟩, hbel.setCell (Nat.le_refl _) _, by rw [size_setCell]; exact hsz2.out⟩
        by_cases e : j = k
        · subst e; exact updB_same _ _ _
        · rw [updB_other _ _ _ e]; exact hf' j (by omega)
      case measure => simp [intOf]; omega
    · obtain rfl : k = n := by omega
      have hrow2 : Hid _ := hrow.congr hf'
      have hsz2 : Hid (wr.heap.size = w.heap.size + 1) := hsz
      clear hc hsz
      go_wp2
      go_ret
      exact ⟨rfl, hrow2.out, hbel, hsz2.out⟩

/-- zzMinusOnes -/
theorem minus_any (n : Nat) (w : World) (hn : n ≤ 4096) :
    Calls Try.prog 31 #[.int .i64 n] w fun e w' => e = .returned (.slice (some ⟨w.heap.size, 0, none⟩) n n) ∧ IRow w' w.heap.size n (fun _ => -1) ∧ Below w.heap.size w w' ∧ w'.heap.size = w.heap.size + 1 := by
  have hmk := make_ints n (by omega)
  go_enter Try.func31, Try.ntmps31
  go_wp2
  go_loopw [4] (fun i wr => ∃ k : Nat, k ≤ n ∧ i = .int .i64 k ∧ (∃ f', IRow wr w.heap.size n f' ∧ ∀ j, j < k → f' j = -1) ∧ Below w.heap.size w wr ∧ wr.heap.size = w.heap.size + 1) (fun i _ => n - (intOf i).toNat)
  case atStart => exact ⟨0, Nat.zero_le _, rfl, ⟨_, irow_made w n, fun j hj => absurd hj (Nat.not_lt_zero _)⟩, (Below.refl _ _).alloc (Nat.le_refl _) _, by simp⟩
  case round =>
    obtain ⟨k, hk, rfl, ⟨f', hrow, hf'⟩, hbel, hsz⟩ := hrel
    by_cases hlt : k < n
    · have e2 := hrow.cell hlt
      have e3 := hrow.free k
      have hi1 : (k : Int) < (n : Int) := by omega
      have hrow2 : Hid _ := hrow.set hlt (-1)
      have hsz2 : Hid (wr.heap.size = w.heap.size + 1) := hsz
      clear hsz
      go_wp2
      go_roundw
      case rel =>
        refine ⟨k + 1, by omega, by go_num, ⟨_, hrow2.out, fun j hj => ?_⟩, hbel.setCell (Nat.le_refl _) _, by rw [size_setCell]; exact hsz2.out⟩
        by_cases e : j = k
        · subst e; exact upd_same _ _ _
        · rw [upd_other _ _ _ e]; exact hf' j (by omega)
      case measure => simp [intOf]; omega
    · obtain rfl : k = n := by omega
      have hrow2 : Hid _ := hrow.congr hf'
      have hsz2 : Hid (wr.heap.size = w.heap.size + 1) := hsz
      clear hsz
      go_wp2
      go_ret
      exact ⟨rfl, hrow2.out, hbel, hsz2.out⟩

/-- zzSameBools at two slices that hold the same -/
theorem same_any (a a' : Option Addr) (n c c' : Nat) (f f' : Nat → Bool) (w : World) (hn : n ≤ 4096) (h : Bools w a n f) (h' : Bools w a' n f') (he : ∀ i, i < n → f i = f' i) :
    Calls Try.prog 28 #[.slice a n c, .slice a' n c'] w fun e w' => e = .returned (.bool true) ∧ ∃ nd, w' = w.drewN nd := by
  go_enter Try.func28, Try.ntmps28
  go_wp2
  go_loopw [5] (fun i wr => ∃ k : Nat, k ≤ n ∧ i = .int .i64 k ∧ ∃ nd, wr = w.drewN nd) (fun i _ => n - (intOf i).toNat)
  case atStart => exact ⟨0, Nat.zero_le _, rfl, 0, rfl⟩
  case round =>
    obtain ⟨k, hk, rfl, nd, rfl⟩ := hrel
    by_cases hlt : k < n
    · rcases h with h | ⟨b, off, rfl, hc⟩
      · omega
      rcases h' with h' | ⟨b', off', rfl, hc'⟩
      · omega
      have e1 := hc k hlt
      have e2 := hc' k hlt
      rw [← he k hlt] at e2
      have hi1 : (k : Int) < (n : Int) := by omega
      clear hc hc' he
      go_wp2
      go_quiet (fail)
      go_wp2
      go_roundw
      case rel => exact ⟨k + 1, by omega, by go_num, _, rfl⟩
      case measure => simp [intOf]; omega
    · go_wp2
      go_ret
      exact ⟨rfl, _, rfl⟩

/-- which links serve, link x let by though it be cut -/
def usableX (A B : Nat → Nat) (F C : Nat → Bool) (x : Int) (i : Nat) : Bool := !(C i && ((i : Int) != x)) && (!F (A i) && !F (B i))

theorem usable_any (a0 a1 a2 a3 : Option Addr) (c0 c1 c2 c3 n m i : Nat) (A B : Nat → Nat) (F C : Nat → Bool) (x : Int) (w : World) (hm : m ≤ 4096) (hn : n ≤ 4096) (hi : i < m)
    (h0 : Ints w a0 m (fun i => A i)) (h1 : Ints w a1 m (fun i => B i)) (h2 : Bools w a2 n F) (h3 : Bools w a3 m C) (hA : A i < n) (hB : B i < n) :
    Calls Try.prog 42 #[.int .i64 i, .slice a0 m c0, .slice a1 m c1, .slice a2 n c2, .slice a3 m c3, .int .i64 x] w fun e w' => e = .returned (.bool (usableX A B F C x i)) ∧ w' = w := by
  rcases h0 with h | ⟨b0, o0, rfl, hc0⟩
  · omega
  rcases h1 with h | ⟨b1, o1, rfl, hc1⟩
  · omega
  rcases h2 with h | ⟨b2, o2, rfl, hc2⟩
  · omega
  rcases h3 with h | ⟨b3, o3, rfl, hc3⟩
  · omega
  have e0 := hc0 i hi
  have e1 := hc1 i hi
  have e2 := hc2 (A i) hA
  have e2' := hc2 (B i) hB
  have e3 := hc3 i hi
  clear hc0 hc1 hc2 hc3
  have hi1 : (i : Int) < (m : Int) := by omega
  have hA1 : (A i : Int) < (n : Int) := by omega
  have hB1 : (B i : Int) < (n : Int) := by omega
  have hu : Hid (usableX A B F C x i = (!(C i && ((i : Int) != x)) && (!F (A i) && !F (B i)))) := rfl
  generalize C i = ci at *
  generalize F (A i) = fa at *
  generalize F (B i) = fb at *
  cases ci <;> cases fa <;> cases fb
  all_goals
    go_enter Try.func42, Try.ntmps42
    go_wp2
    all_goals (go_ret; refine ⟨ret_bool ?_, rfl⟩; rw [hu.out]; simp_all)

/-- WHAT zzLinksFit's yes says -/
def Fits (n ma mb mc : Nat) (fa fb : Nat → Int) : Prop := ma = mb ∧ ma = mc ∧ ∀ i, i < ma → 0 ≤ fa i ∧ fa i < n ∧ 0 ≤ fb i ∧ fb i < n ∧ fa i ≠ fb i
def FitsIf (e : Ending) (n ma mb mc : Nat) (fa fb : Nat → Int) : Prop := ∃ x : Bool, e = .returned (.bool x) ∧ (x = true → Fits n ma mb mc fa fb)
theorem fits_no (n ma mb mc : Nat) (fa fb : Nat → Int) : FitsIf (.returned (.bool false)) n ma mb mc fa fb := ⟨false, rfl, fun h => by cases h⟩

set_option maxHeartbeats 2000000 in
theorem fit_any (a0 a1 a2 : Option Addr) (c0 c1 c2 n ma mb mc : Nat) (fa fb : Nat → Int) (w : World) (hma : ma ≤ 4096) (hmb : mb ≤ 4096) (hmc : mc ≤ 4096) (hn : n ≤ 4096) (h0 : Ints w a0 ma fa) (h1 : Ints w a1 mb fb) :
    Calls Try.prog 10 #[.int .i64 n, .slice a0 ma c0, .slice a1 mb c1, .slice a2 mc c2] w fun e w' => FitsIf e n ma mb mc fa fb ∧ ∃ nd, w' = w.drewN nd := by
  by_cases c1 : ma = mb
  · by_cases c2 : ma = mc
    · subst c1; subst c2
      go_enter Try.func10, Try.ntmps10
      go_wp2
      go_loopw [9] (fun i wr => ∃ k : Nat, k ≤ ma ∧ i = .int .i64 k ∧ Hid (∀ j, j < k → 0 ≤ fa j ∧ fa j < n ∧ 0 ≤ fb j ∧ fb j < n ∧ fa j ≠ fb j) ∧ ∃ nd, wr = w.drewN nd) (fun i _ => ma - (intOf i).toNat)
      case atStart => exact ⟨0, Nat.zero_le _, rfl, fun j hj => absurd hj (Nat.not_lt_zero _), 0, rfl⟩
      case round =>
        obtain ⟨k, hk, rfl, hs, nd, rfl⟩ := hrel
        by_cases hlt : k < ma
        · rcases h0 with h | ⟨b, off, rfl, hc⟩
          · omega
          rcases h1 with h' | ⟨b', off', rfl, hc'⟩
          · omega
          have e1 := hc k hlt
          have e2 := hc' k hlt
          have hi1 : (k : Int) < (ma : Int) := by omega
          clear hc hc'
          generalize hx : fa k = x at *
          generalize hy : fb k = y at *
          have hx' : Hid _ := hx
          have hy' : Hid _ := hy
          clear hx hy
          by_cases d1 : x < 0
          · go_wp2
            go_quiet (fail)
            go_wp2
            go_ret
            exact ⟨fits_no _ _ _ _ _ _, drews _ _ _⟩
          have d1' : decide (x < 0) = false := by simpa using d1
          by_cases d2 : (n : Int) ≤ x
          · go_wp2
            go_quiet (fail)
            go_wp2
            go_ret
            exact ⟨fits_no _ _ _ _ _ _, drews _ _ _⟩
          have d2' : decide ((n : Int) ≤ x) = false := by simpa using d2
          by_cases d3 : y < 0
          · go_wp2
            go_quiet (fail)
            go_wp2
            go_ret
            exact ⟨fits_no _ _ _ _ _ _, drews _ _ _⟩
          have d3' : decide (y < 0) = false := by simpa using d3
          by_cases d4 : (n : Int) ≤ y
          · go_wp2
            go_quiet (fail)
            go_wp2
            go_ret
            exact ⟨fits_no _ _ _ _ _ _, drews _ _ _⟩
          have d4' : decide ((n : Int) ≤ y) = false := by simpa using d4
          by_cases d5 : x = y
          · subst d5
            go_wp2
            go_quiet (fail)
            go_wp2
            go_ret
            exact ⟨fits_no _ _ _ _ _ _, drews _ _ _⟩
          · have d5' : (x == y) = false := by simpa using d5
            have hnew : Hid (0 ≤ fa k ∧ fa k < n ∧ 0 ≤ fb k ∧ fb k < n ∧ fa k ≠ fb k) := by
              unfold Hid; rw [hx'.out, hy'.out]; exact ⟨by omega, by omega, by omega, by omega, d5⟩
            go_wp2
            go_quiet (fail)
            go_wp2
            go_roundw
            case rel => exact ⟨k + 1, by omega, by go_num, fun j hj => by
              by_cases hjk : j = k
              · subst hjk; exact hnew.out
              · exact hs.out j (by omega), _, rfl⟩
            case measure => simp [intOf]; omega
        · obtain rfl : k = ma := by omega
          go_wp2
          go_ret
          exact ⟨⟨true, rfl, fun _ => ⟨rfl, rfl, hs.out⟩⟩, _, rfl⟩
    · have c2' : ((ma : Int) != (mc : Int)) = true := by simp; omega
      subst c1
      go_enter Try.func10, Try.ntmps10
      go_wp2
      go_ret
      exact ⟨fits_no _ _ _ _ _ _, 0, rfl⟩
  · have c1' : ((ma : Int) != (mb : Int)) = true := by simp; omega
    go_enter Try.func10, Try.ntmps10
    go_wp2
    go_ret
    exact ⟨fits_no _ _ _ _ _ _, 0, rfl⟩

theorem info70 : (Try.prog.info? 70).map (fun i => (i.zero, i.size, i.bytes)) = some (some (.agg #[.int .i64 0, .int .i64 0]), 2, 16) := by kernel_rfl

/-- a block of k cells, none frozen, of whatever content -/
def Room (w : World) (g k : Nat) : Prop := ∃ cs t, Blk w g cs t ∧ cs.size = k
theorem Room.cell {w : World} {g k : Nat} (h : Room w g k) {i : Nat} (hi : i < k) : ∃ v, w.cell? ⟨g, i, none⟩ = some v := by
  obtain ⟨cs, t, hb, hs⟩ := h
  exact ⟨cs[i], hb.cell (Array.getElem?_eq_getElem (by omega))⟩
theorem Room.free {w : World} {g k : Nat} (h : Room w g k) (i : Nat) : w.frozen? ⟨g, i, none⟩ = false := by
  obtain ⟨cs, t, hb, hs⟩ := h
  exact hb.free i
theorem Room.set {w : World} {g k : Nat} (h : Room w g k) (i : Nat) (v : Value) : Room (w.setCell ⟨g, i, none⟩ v) g k := by
  obtain ⟨cs, t, hb, hs⟩ := h
  exact ⟨_, t, hb.set i v, by simp [hs]⟩

/-- make([]Link, n): a block of 2n cells -/
theorem make_links (n : Nat) (hn : n ≤ 1048576) (w : World) : ∃ cs, cs.size = 2 * n ∧ (Instr.makeSlice 33 (.int .i64 (n : Int)) (.int .i64 (n : Int))).run Try.prog w = .ok (.slice (some ⟨w.heap.size, 0, none⟩) n n) (w.alloc (.cells cs 70)) := by
  obtain ⟨i, hi, hz, hs, hb⟩ := info_parts info70
  have h := run_make (P := Try.prog) w 33 70 i _ Try.underlying33 hi hz .i64 .i64 n n (by omega) (by omega) (by rw [hb]; omega) (by omega)
  rw [hs] at h
  simp only [Int.toNat_natCast] at h
  exact ⟨_, by simp [madeCells]; omega, h⟩

set_option maxHeartbeats 1000000 in
/-- zzLinks: what counts is its length -/
theorem links_any (a0 a1 : Option Addr) (c0 c1 m : Nat) (fa fb : Nat → Int) (w : World) (hm : m ≤ 4096) (h0 : Ints w a0 m fa) (h1 : Ints w a1 m fb) :
    Calls Try.prog 15 #[.slice a0 m c0, .slice a1 m c1] w fun e w' => e = .returned (.slice (some ⟨w.heap.size, 0, none⟩) m m) ∧ Below w.heap.size w w' ∧ w'.heap.size = w.heap.size + 1 := by
  obtain ⟨cs, hcs, hmk⟩ := make_links m (by omega) w
  have hcs' : Hid _ := hcs
  clear hcs
  go_enter Try.func15, Try.ntmps15
  go_wp2
  go_loopw [6] (fun i wr => ∃ k : Nat, k ≤ m ∧ i = .int .i64 k ∧ Room wr w.heap.size (2 * m) ∧ Below w.heap.size w wr ∧ wr.heap.size = w.heap.size + 1) (fun i _ => m - (intOf i).toNat)
  case atStart => exact ⟨0, Nat.zero_le _, rfl, ⟨cs, 70, Blk.new w cs 70, hcs'.out⟩, (Below.refl _ _).alloc (Nat.le_refl _) _, by simp⟩
  case round =>
    obtain ⟨k, hk, rfl, hroom, hbel, hsz⟩ := hrel
    have hsz2 : Hid (wr.heap.size = w.heap.size + 1) := hsz
    clear hsz
    by_cases hlt : k < m
    · rcases h0 with h | ⟨b, off, rfl, hc⟩
      · omega
      rcases h1 with h' | ⟨b', off', rfl, hc'⟩
      · omega
      have e1 := cell_later hbel (hc k hlt)
      have e2 := cell_later hbel (hc' k hlt)
      have hi1 : (k : Int) < (m : Int) := by omega
      obtain ⟨v1, r1⟩ := hroom.cell (i := k * 2) (by omega)
      obtain ⟨v2, r2⟩ := hroom.cell (i := k * 2 + 1) (by omega)
      have r3 := hroom.free (k * 2)
      have r4 := hroom.free (k * 2 + 1)
      clear hc hc'
      go_wp2
      go_region
      go_wp2
      go_roundw
      case rel =>
        refine ⟨k + 1, by omega, by go_num, (hroom.set _ _).set _ _, ((hbel.setCell ?_ _).setCell ?_ _).drew, ?_⟩
        · exact Nat.le_refl _
        · exact Nat.le_refl _
        · show ((wr.setCell _ _).setCell _ _).heap.size = _
          rw [size_setCell, size_setCell]; exact hsz2.out
      case measure => simp [intOf]; omega
    · go_wp2
      go_ret
      exact ⟨rfl, hbel, hsz2.out⟩
end Go.Proofs.Qxb6608983a
