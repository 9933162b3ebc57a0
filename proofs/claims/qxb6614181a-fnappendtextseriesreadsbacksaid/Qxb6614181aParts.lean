import Derived.Test.Qxb6614181aRows
import Derived.WalkKit
import Derived.ProofKit
import Derived.OpenShut
import Derived.ShutString
import Derived.ChangeOld
import Derived.Below
import Derived.Lib.AppendStr
import Derived.Lib.VarintMem
import Derived.OwnWalk
import Derived.Laws.CopyOwn
import Derived.Deep.OwnRows
import Derived.Lib.BufferWrite
import Derived.WalkSpells
namespace Go.Proofs.Qxb6614181a.fnAppend
open Go.ChangeShapes Go.WideShapes Go.ChangeAt Go.RowKit
open Go.ChangeMaps (open_string shut_string)

theorem info5 : (Try.prog.info? 5).map (fun i => (i.zero, i.size, i.bytes)) = some (some (.int .u8 0), 1, 1) := by kernel_rfl

set_option maxHeartbeats 8000000 in
set_option maxRecDepth 100000 in
/-- binary.AppendUvarint, onto a slice that the call owns: behind it x's varint. (The shelf's walk, at this dump's numbers.) -/
theorem appendUvarint_any (B n x : Nat) (hx : x < 18446744073709551616) (sv : Value) (xs : List Value) (w : World) (hown : w.ownsRow B 5 1 sv n xs) (hBw : B ≤ w.heap.size) (hlim : n + 10 ≤ 140737488355328) :
    Calls Try.prog 40 #[sv, .int .u64 x] w fun e w' => ∃ v', e = .returned v' ∧ w'.ownsRow B 5 1 v' (n + (Lib.uvarint x).length) (xs ++ Lib.byteCells (Lib.uvarint x)) ∧ Below B w w' := by
  obtain ⟨i0, hi, hz0, hz1, hz2⟩ := info_parts info5
  have hlen := Lib.uvarint_length64 hx
  go_enter Try.func40, Try.ntmps40
  go_wp2
  go_loopw [0, 1] (fun vb vx wr => ∃ (y : Nat) (pre : List UInt8), vx = .int .u64 y ∧ y ≤ x ∧ Lib.uvarint x = pre ++ Lib.uvarint y ∧ wr.ownsRow B 5 1 vb (n + pre.length) (xs ++ Lib.byteCells pre) ∧ Below B w wr)
    (fun _ vx _ => (intOf vx).toNat)
  case atStart => exact ⟨x, [], rfl, Nat.le_refl _, rfl, by simpa [Lib.byteCells] using hown, Below.refl _ _⟩
  case round =>
    obtain ⟨y, pre, rfl, hy, hsplit, hown1, hnx⟩ := hrel
    have hpl : pre.length + (Lib.uvarint y).length ≤ 10 := by
      have h2 := congrArg List.length hsplit
      rw [List.length_append] at h2
      omega
    have hyp := Lib.uvarint_pos y
    by_cases h128 : 128 ≤ y
    · have hor : bits .or .u8 ((y : Int) % 256) 128 = ((y % 128 + 128 : Nat) : Int) := by
        rw [Lib.u8_or128_any _ (by omega) (by omega)]
        omega
      go_wp2_with (at_builtin; refine wpList_append_own _ rfl _ _ 42 rfl B 5 i0 (.int .u8 0) 1 1 Try.underlying42 hi hz0 hz1 hz2 rfl (by decide) _ _ _ rfl (hown1.alloc _) ⟨wr.heap.size, 0, none⟩ 1 1 [Value.int .u8 ((y % 128 + 128 : Nat) : Int)] rfl rfl ?c1 ?c2 ?c3 ?c4 ?c5 ?_)
      case c1 =>
        intro j u hj
        match j, hj with
        | 0, hj => simp at hj; subst hj; simp [Addr.add]
      case c2 => intro u hu; simp at hu; subst hu; rfl
      case c3 => unfold maxLen; omega
      case c4 => omega
      case c5 => have := hnx.size; simp; omega
      intro v' w1 hown' hgrow _
      have hnx1 : Below B w w1 := (hnx.alloc (by have := hnx.size; omega) _).grown hgrow (by have := hnx.size; simp; omega) (fun k hk => (hown1.lt k hk).1)
      go_wp2
      go_roundw
      case rel =>
        refine ⟨y / 128, pre ++ [(y % 128 + 128).toUInt8], by go_num, by omega, by rw [hsplit, Lib.uvarint_big h128]; simp, ?_, hnx1⟩
        have ec : ((y % 128 + 128 : Nat) : Int) = (y : Int) % 128 + 128 := by omega
        rw [Lib.byteCells_snoc pre (by omega), List.length_append, List.length_singleton, ← Nat.add_assoc, ec]
        exact hown'
      case measure => simp [intOf]; omega
    · have hsm : Lib.uvarint y = [y.toUInt8] := Lib.uvarint_small (by omega)
      go_wp2_with (at_builtin; refine wpList_append_own _ rfl _ _ 42 rfl B 5 i0 (.int .u8 0) 1 1 Try.underlying42 hi hz0 hz1 hz2 rfl (by decide) _ _ _ rfl (hown1.alloc _) ⟨wr.heap.size, 0, none⟩ 1 1 [Value.int .u8 (y : Int)] rfl rfl ?c1 ?c2 ?c3 ?c4 ?c5 ?_)
      case c1 =>
        intro j u hj
        match j, hj with
        | 0, hj => simp at hj; subst hj; simp [Addr.add]
      case c2 => intro u hu; simp at hu; subst hu; rfl
      case c3 => unfold maxLen; omega
      case c4 => omega
      case c5 => have := hnx.size; simp; omega
      intro v' w1 hown' hgrow _
      have hnx1 : Below B w w1 := (hnx.alloc (by have := hnx.size; omega) _).grown hgrow (by have := hnx.size; simp; omega) (fun k hk => (hown1.lt k hk).1)
      go_wp2
      go_ret
      refine ⟨v', rfl, ?_, hnx1⟩
      rw [hsplit, hsm, Lib.byteCells_snoc pre (by omega), List.length_append, List.length_singleton, ← Nat.add_assoc]
      exact hown'

/-- one text, as appendString lays it: its length as a varint, then its bytes -/
def enc (s : ByteArray) : List UInt8 := Lib.uvarint s.size ++ s.data.toList

theorem size_toList (s : ByteArray) : s.size = s.data.toList.length := Lib.size_eq s

theorem appendString_any (B n : Nat) (s : ByteArray) (sv : Value) (bs : List UInt8) (w : World) (hown : w.ownsRow B 5 1 sv n (Lib.byteCells bs)) (hBw : B ≤ w.heap.size) (hs : s.size ≤ 1048576) (hlim : n ≤ 1099511627776) :
    Calls Try.prog 37 #[sv, .string s] w fun e w' => ∃ v', e = .returned v' ∧ w'.ownsRow B 5 1 v' (n + (enc s).length) (Lib.byteCells (bs ++ enc s)) ∧ Below B w w' := by
  obtain ⟨i0, hi, hz0, hz1, hz2⟩ := info_parts info5
  have hlen := Lib.uvarint_length64 (x := s.size) (by omega)
  go_enter Try.func37, Try.ntmps37
  go_wp2_with fail
  refine (appendUvarint_any B n s.size (by omega) sv _ _ hown hBw (by omega)).mono ?_
  rintro e w1 ⟨v1, rfl, hown1, hb1⟩
  go_wp2_with (at_builtin; refine Lib.wpList_append_own_string _ rfl _ _ 42 9 rfl B 5 i0 Try.underlying42 Try.underlying9 hi hz0 hz1 hz2 _ _ _ rfl hown1 s rfl ?c1 ?c2 ?c3 ?_)
  case c1 => unfold maxLen; omega
  case c2 => omega
  case c3 => have := hb1.size; omega
  intro v2 w2 hown2 hgrow _
  go_wp2
  go_ret
  refine ⟨v2, rfl, ?_, hb1.grown hgrow (by have := hb1.size; omega) (fun k hk => (hown1.lt k hk).1)⟩
  unfold enc
  rw [Lib.strCells_eq] at hown2
  rw [Lib.byteCells_append, Lib.byteCells_append, List.length_append, ← Nat.add_assoc, ← size_toList]
  exact hown2

theorem appendText_any (B n : Nat) (tt m : Int) (s : ByteArray) (sv : Value) (bs : List UInt8) (w : World) (hown : w.ownsRow B 5 1 sv n (Lib.byteCells bs)) (hBw : B ≤ w.heap.size) (hs : s.size ≤ 1048576) (hlim : n ≤ 1099511627776) :
    Calls Try.prog 20 #[sv, .agg #[.int .u8 tt, .int .i64 m, .string s]] w fun e w' => ∃ v', e = .returned v' ∧ w'.ownsRow B 5 1 v' (n + (enc s).length) (Lib.byteCells (bs ++ enc s)) ∧ Below B w w' := by
  go_enter Try.func20, Try.ntmps20
  go_wp2_with fail
  refine (show Calls Try.prog 33 #[sv, .agg #[.int .u8 tt, .int .i64 m, .string s]] (w.alloc (.cells #[.int .u8 tt, .int .i64 m, .string s] 49)) (fun e w' => ∃ v', e = .returned v' ∧ w'.ownsRow B 5 1 v' (n + (enc s).length) (Lib.byteCells (bs ++ enc s)) ∧ Below B w w') from ?_).mono ?_
  · go_enter Try.func33, Try.ntmps33
    go_wp2_with fail
    refine (appendString_any B n s sv bs _ ((hown.alloc _).alloc _) (by simp; omega) hs hlim).mono ?_
    rintro e w1 ⟨v1, rfl, hown1, hb1⟩
    go_wp2_with fail
    go_ret
    exact ⟨v1, rfl, hown1, (((Below.refl _ _).alloc hBw _).alloc (by simp; omega) _).trans hb1⟩
  · rintro e w1 ⟨v1, rfl, hown1, hb1⟩
    go_wp2_with fail
    go_ret
    exact ⟨v1, rfl, hown1, hb1⟩

theorem newValue_any (tt m : Int) (s : ByteArray) (w : World) :
    Calls Try.prog 21 #[.int .u8 tt, .int .i64 m, .string s] w fun e w' => e = .returned (.agg #[.int .u8 tt, .int .i64 m, .string s]) ∧ ∃ o, w' = w.alloc o := by
  go_enter Try.func21, Try.ntmps21
  go_wp2
  exact bodyPost_ret (v := .agg #[.int .u8 tt, .int .i64 m, .string s]) (by simp [results, Try.results21, go_sem]) rfl ⟨rfl, _, rfl⟩

/-- WHAT THE WALKS ARE TOLD OF A SLICE OF BYTES: nil, or a row whose first 'bs.length' cells hold the bytes. -/
def Bytes (w : World) (v : Value) (bs : List UInt8) : Prop :=
  bs.length ≤ 1099511627776 ∧ ((v = .slice none 0 0 ∧ bs = []) ∨
    ∃ x cap, v = .slice (some x) bs.length cap ∧ ∀ j u, (Lib.byteCells bs)[j]? = some u → w.cell? (x.add j) = some u)

theorem copy_made (x : Addr) (cap : Nat) (bs : List UInt8) (w : World) (hl : bs.length ≤ 1099511627776) (hc : ∀ j u, (Lib.byteCells bs)[j]? = some u → w.cell? (x.add j) = some u) :
    ∃ W1, (∀ ty, (Builtin.copy_ #[42, 42] ty #[.slice (some ⟨w.heap.size, 0, none⟩) bs.length bs.length, .slice (some x) bs.length cap]).run Try.prog (w.alloc (.cells (madeCells #[.int .u8 0] bs.length) 5)) = .ok (.int .i64 bs.length) W1) ∧
      W1.ownsRow w.heap.size 5 1 (.slice (some ⟨w.heap.size, 0, none⟩) bs.length bs.length) bs.length (Lib.byteCells bs) ∧ Below w.heap.size w W1 := by
  have hms : (madeCells #[.int .u8 0] bs.length).size = bs.length := by simp [madeCells]
  have hbl := Lib.byteCells_length bs
  have hg : (w.alloc (.cells (madeCells #[.int .u8 0] bs.length) 5)).heap[w.heap.size]? = some (.cells (madeCells #[.int .u8 0] bs.length) 5 (0, 0)) := heap_alloc_new w _
  have hb : Below w.heap.size w (w.alloc (.cells (madeCells #[.int .u8 0] bs.length) 5)) := (Below.refl _ _).alloc (Nat.le_refl _) _
  refine ⟨_, fun ty => run_copy_row (P := Try.prog) _ 42 42 ty 5 w.heap.size 0 bs.length bs.length x bs.length cap _ 5 (Lib.byteCells bs) Try.underlying42 (by kernel_rfl) hg (by rw [hbl]; simp) (fun j v hj => cell_later hb (hc j v hj)) (by rw [hbl, hms]; omega) (Lib.byteCells_one bs) |>.trans (by rw [hbl]; rfl), ?_, below_setRow hb (Nat.le_refl _) _⟩
  refine ⟨by rw [hbl]; simp, .inr ⟨w.heap.size, bs.length, _, rfl, Nat.le_refl _, setRow_heap _ _ _ _ _ _ hg, Nat.le_refl _, by unfold maxLen; omega, ?_, ?_⟩⟩
  · simp [hbl, hms]
  · simp [hbl]

theorem clone_any (v : Value) (bs : List UInt8) (w : World) (h : Bytes w v bs) :
    Calls Try.prog 19 #[v] w fun e w' => ∃ v', e = .returned v' ∧ w'.ownsRow w.heap.size 5 1 v' bs.length (Lib.byteCells bs) ∧ Below w.heap.size w w' := by
  have q42 : ∀ (w : World) (a : Option Addr) (n c n' c' : Nat), (binOp .eql 42 (.slice a n c) (.slice none n' c')).run Try.prog w = .ok (.bool a.isNone) w := fun w a n c n' c' => Lib.run_eql_slice_nil w _ _ a n c n' c' Try.underlying42
  obtain ⟨hl, ⟨rfl, rfl⟩ | ⟨x, cap, rfl, hc⟩⟩ := h
  · go_enter Try.func19, Try.ntmps19
    go_wp2
    go_ret
    exact ⟨_, rfl, World.ownsRow_nil _ _ _ _, Below.refl _ _⟩
  · obtain ⟨W1, hcp, hown, hb⟩ := copy_made x cap bs w hl hc
    have hmk := fun w' => run_make_row' (P := Try.prog) 42 5 (.int .u8 0) 1 Try.underlying42 info5 rfl .i64 .i64 bs.length (by omega) (by omega) w'
    have hown' : Hid _ := hown
    have hb' : Hid _ := hb
    clear hc hown hb
    go_enter Try.func19, Try.ntmps19
    go_wp2
    go_ret
    exact ⟨_, rfl, hown'.out, hb'.out⟩
end Go.Proofs.Qxb6614181a.fnAppend
