/-
  SEAT b6608983a: words for memory: whole blocks, rows of ints and bools, frames.
-/
import Derived.Test.Qxb6608983aRows
import Derived.Test.Qxb6608983aBfs
import Derived.WalkKit
import Derived.ProofKit
import Derived.OpenShut
import Derived.ChangeOld
import Derived.Below
import Derived.OwnWalk
import Derived.Deep.OwnRows
import Derived.WalkSpells
import Derived.WalkSmall
import Derived.Deep.QuietTactic
import Derived.BigQuiet
import Derived.Deep.RegionHeld3
set_option linter.unusedVariables false
namespace Go.Proofs.Qxb6608983a
open Go.ChangeShapes Go.WideShapes Go.ChangeAt Go.RowKit
open G (upd upd_same upd_other)

/-- block b of w holds the cells cs, of type t; none is frozen -/
def Blk (w : World) (b : Nat) (cs : Array Value) (t : TypeId) : Prop := w.heap[b]? = some (.cells cs t (0, 0))

theorem Blk.lt {w : World} {b : Nat} {cs : Array Value} {t : TypeId} (h : Blk w b cs t) : b < w.heap.size := (Array.getElem?_eq_some_iff.1 h).1
theorem Blk.cell {w : World} {b : Nat} {cs : Array Value} {t : TypeId} (h : Blk w b cs t) {i : Nat} {v : Value} (hi : cs[i]? = some v) : w.cell? ⟨b, i, none⟩ = some v := by
  unfold Blk at h
  simp [World.cell?, h, hi]
theorem Blk.free {w : World} {b : Nat} {cs : Array Value} {t : TypeId} (h : Blk w b cs t) (i : Nat) : w.frozen? ⟨b, i, none⟩ = false := by
  unfold Blk at h
  simp [World.frozen?, h]
theorem Blk.set {w : World} {b : Nat} {cs : Array Value} {t : TypeId} (h : Blk w b cs t) (i : Nat) (v : Value) : Blk (w.setCell ⟨b, i, none⟩ v) b (cs.setIfInBounds i v) t := by
  unfold Blk
  rw [setCell_eq_setRow w b i cs t (0, 0) v h]
  exact setRow_heap w b cs _ t _ h
theorem Blk.other {w : World} {b : Nat} {cs : Array Value} {t : TypeId} (h : Blk w b cs t) {a : Addr} (hne : b ≠ a.block) (v : Value) : Blk (w.setCell a v) b cs t := (Below.heap_setCell w a v b hne).trans h
theorem Blk.alloc {w : World} {b : Nat} {cs : Array Value} {t : TypeId} (h : Blk w b cs t) (o : Obj) : Blk (w.alloc o) b cs t := (Below.heap_alloc w o b h.lt).trans h
theorem Blk.new (w : World) (cs : Array Value) (t : TypeId) : Blk (w.alloc (.cells cs t)) w.heap.size cs t := heap_alloc_new w _
theorem Blk.drewN {w : World} {b : Nat} {cs : Array Value} {t : TypeId} (h : Blk w b cs t) (k : Nat) : Blk (w.drewN k) b cs t := h

/-- every old block outside S is as it was; the streams are as they were -/
structure Keeps (S : Nat → Prop) (w w' : World) : Prop where
  os : w'.os = w.os
  tape : w'.tape = w.tape
  output : w'.output = w.output
  size : w.heap.size ≤ w'.heap.size
  block : ∀ k, k < w.heap.size → ¬ S k → w'.heap[k]? = w.heap[k]?

theorem Keeps.refl (S : Nat → Prop) (w : World) : Keeps S w w := ⟨rfl, rfl, rfl, Nat.le_refl _, fun _ _ _ => rfl⟩
theorem Keeps.trans {S S' : Nat → Prop} {a b c : World} (h : Keeps S a b) (k : Keeps S' b c) (hs : ∀ i, i < a.heap.size → S' i → S i) : Keeps S a c :=
  ⟨k.os.trans h.os, k.tape.trans h.tape, k.output.trans h.output, Nat.le_trans h.size k.size, fun i hi hn => (k.block i (Nat.lt_of_lt_of_le hi h.size) (fun hh => hn (hs i hi hh))).trans (h.block i hi hn)⟩
theorem Keeps.mono {S S' : Nat → Prop} {a b : World} (h : Keeps S a b) (hs : ∀ i, i < a.heap.size → S i → S' i) : Keeps S' a b :=
  ⟨h.os, h.tape, h.output, h.size, fun i hi hn => h.block i hi (fun hh => hn (hs i hi hh))⟩
theorem Keeps.drewN {S : Nat → Prop} {a b : World} (h : Keeps S a b) (k : Nat) : Keeps S a (b.drewN k) := ⟨h.os, h.tape, h.output, h.size, h.block⟩
theorem Keeps.alloc {S : Nat → Prop} {a b : World} (h : Keeps S a b) (o : Obj) : Keeps S a (b.alloc o) :=
  ⟨h.os, h.tape, h.output, Nat.le_trans h.size (by simp), fun i hi hn => (Below.heap_alloc b o i (Nat.lt_of_lt_of_le hi h.size)).trans (h.block i hi hn)⟩
theorem Keeps.setCell {S : Nat → Prop} {a b : World} (h : Keeps S a b) {p : Addr} (hp : p.block < a.heap.size → S p.block) (v : Value) : Keeps S a (b.setCell p v) :=
  ⟨h.os, h.tape, h.output, Nat.le_trans h.size (by simp [World.setCell]), fun i hi hn => (Below.heap_setCell b p v i (fun e => hn (by subst e; exact hp hi))).trans (h.block i hi hn)⟩
theorem Keeps.of_below {w w' : World} (h : Below w.heap.size w w') : Keeps (fun _ => False) w w' := ⟨h.os, h.tape, h.output, h.size, fun i hi _ => h.block i hi⟩
theorem Keeps.below {S : Nat → Prop} {w w' : World} {B : Nat} (h : Keeps S w w') (hB : B ≤ w.heap.size) (hS : ∀ i, i < B → ¬ S i) : Below B w w' := ⟨h.os, h.tape, h.output, h.size, fun i hi => h.block i (by omega) (hS i hi)⟩
theorem Keeps.grown {S : Nat → Prop} {a w w' : World} {row : Option Nat} (h : Keeps S a w) (hg : w.grownBy w' row) (hr : ∀ k, row = some k → k < a.heap.size → S k) : Keeps S a w' :=
  ⟨hg.os.trans h.os, hg.tape.trans h.tape, hg.output.trans h.output, Nat.le_trans h.size hg.size, fun i hi hn => (hg.block i (Nat.lt_of_lt_of_le hi h.size) (fun e => hn (hr i e.symm hi))).trans (h.block i hi hn)⟩
theorem Blk.kept {S : Nat → Prop} {w w' : World} {b : Nat} {cs : Array Value} {t : TypeId} (h : Blk w b cs t) (hk : Keeps S w w') (hb : ¬ S b) : Blk w' b cs t := (hk.block b h.lt hb).trans h

/-- a row of n ints in block g: d -/
def IRow (w : World) (g n : Nat) (d : Nat → Int) : Prop := ∃ cs, Blk w g cs 3 ∧ cs.size = n ∧ ∀ i, i < n → cs[i]? = some (.int .i64 (d i))
/-- a row of n bools in block g: f -/
def BRow (w : World) (g n : Nat) (f : Nat → Bool) : Prop := ∃ cs, Blk w g cs 4 ∧ cs.size = n ∧ ∀ i, i < n → cs[i]? = some (.bool (f i))

theorem IRow.cell {w : World} {g n : Nat} {d : Nat → Int} (h : IRow w g n d) {i : Nat} (hi : i < n) : w.cell? ⟨g, i, none⟩ = some (.int .i64 (d i)) := by
  obtain ⟨cs, hb, _, hc⟩ := h
  exact hb.cell (hc i hi)
theorem IRow.free {w : World} {g n : Nat} {d : Nat → Int} (h : IRow w g n d) (i : Nat) : w.frozen? ⟨g, i, none⟩ = false := by
  obtain ⟨cs, hb, _, _⟩ := h
  exact hb.free i
theorem IRow.lt {w : World} {g n : Nat} {d : Nat → Int} (h : IRow w g n d) : g < w.heap.size := by
  obtain ⟨cs, hb, _, _⟩ := h
  exact hb.lt
theorem IRow.set {w : World} {g n : Nat} {d : Nat → Int} (h : IRow w g n d) {v : Nat} (hv : v < n) (x : Int) : IRow (w.setCell ⟨g, v, none⟩ (.int .i64 x)) g n (upd d v x) := by
  obtain ⟨cs, hb, hs, hc⟩ := h
  refine ⟨_, hb.set v _, by simp [hs], fun i hi => ?_⟩
  by_cases e : i = v
  · subst e; rw [upd_same]; simp [hs, hi]
  · rw [upd_other _ _ _ e, Array.getElem?_setIfInBounds_ne (Ne.symm e)]; exact hc i hi
theorem IRow.other {w : World} {g n : Nat} {d : Nat → Int} (h : IRow w g n d) {a : Addr} (hne : g ≠ a.block) (v : Value) : IRow (w.setCell a v) g n d := by
  obtain ⟨cs, hb, hs, hc⟩ := h
  exact ⟨cs, hb.other hne v, hs, hc⟩
theorem IRow.alloc {w : World} {g n : Nat} {d : Nat → Int} (h : IRow w g n d) (o : Obj) : IRow (w.alloc o) g n d := by
  obtain ⟨cs, hb, hs, hc⟩ := h
  exact ⟨cs, hb.alloc o, hs, hc⟩
theorem IRow.drewN {w : World} {g n : Nat} {d : Nat → Int} (h : IRow w g n d) (k : Nat) : IRow (w.drewN k) g n d := h
theorem IRow.kept {S : Nat → Prop} {w w' : World} {g n : Nat} {d : Nat → Int} (h : IRow w g n d) (hk : Keeps S w w') (hb : ¬ S g) : IRow w' g n d := by
  obtain ⟨cs, hb', hs, hc⟩ := h
  exact ⟨cs, hb'.kept hk hb, hs, hc⟩
theorem IRow.congr {w : World} {g n : Nat} {d d' : Nat → Int} (h : IRow w g n d) (e : ∀ i, i < n → d i = d' i) : IRow w g n d' := by
  obtain ⟨cs, hb', hs, hc⟩ := h
  exact ⟨cs, hb', hs, fun i hi => by rw [← e i hi]; exact hc i hi⟩

theorem BRow.cell {w : World} {g n : Nat} {d : Nat → Bool} (h : BRow w g n d) {i : Nat} (hi : i < n) : w.cell? ⟨g, i, none⟩ = some (.bool (d i)) := by
  obtain ⟨cs, hb, _, hc⟩ := h
  exact hb.cell (hc i hi)
theorem BRow.free {w : World} {g n : Nat} {d : Nat → Bool} (h : BRow w g n d) (i : Nat) : w.frozen? ⟨g, i, none⟩ = false := by
  obtain ⟨cs, hb, _, _⟩ := h
  exact hb.free i
theorem BRow.lt {w : World} {g n : Nat} {d : Nat → Bool} (h : BRow w g n d) : g < w.heap.size := by
  obtain ⟨cs, hb, _, _⟩ := h
  exact hb.lt
/-- one bool turned -/
def updB (f : Nat → Bool) (v : Nat) (x : Bool) : Nat → Bool := fun u => if u = v then x else f u
theorem updB_same (d : Nat → Bool) (v : Nat) (x : Bool) : updB d v x v = x := if_pos rfl
theorem updB_other (d : Nat → Bool) (v : Nat) (x : Bool) {u : Nat} (h : u ≠ v) : updB d v x u = d u := if_neg h
theorem BRow.set {w : World} {g n : Nat} {d : Nat → Bool} (h : BRow w g n d) {v : Nat} (hv : v < n) (x : Bool) : BRow (w.setCell ⟨g, v, none⟩ (.bool x)) g n (updB d v x) := by
  obtain ⟨cs, hb, hs, hc⟩ := h
  refine ⟨_, hb.set v _, by simp [hs], fun i hi => ?_⟩
  by_cases e : i = v
  · subst e; rw [updB_same]; simp [hs, hi]
  · rw [updB_other _ _ _ e, Array.getElem?_setIfInBounds_ne (Ne.symm e)]; exact hc i hi
theorem BRow.other {w : World} {g n : Nat} {d : Nat → Bool} (h : BRow w g n d) {a : Addr} (hne : g ≠ a.block) (v : Value) : BRow (w.setCell a v) g n d := by
  obtain ⟨cs, hb, hs, hc⟩ := h
  exact ⟨cs, hb.other hne v, hs, hc⟩
theorem BRow.alloc {w : World} {g n : Nat} {d : Nat → Bool} (h : BRow w g n d) (o : Obj) : BRow (w.alloc o) g n d := by
  obtain ⟨cs, hb, hs, hc⟩ := h
  exact ⟨cs, hb.alloc o, hs, hc⟩
theorem BRow.drewN {w : World} {g n : Nat} {d : Nat → Bool} (h : BRow w g n d) (k : Nat) : BRow (w.drewN k) g n d := h
theorem BRow.kept {S : Nat → Prop} {w w' : World} {g n : Nat} {d : Nat → Bool} (h : BRow w g n d) (hk : Keeps S w w') (hb : ¬ S g) : BRow w' g n d := by
  obtain ⟨cs, hb', hs, hc⟩ := h
  exact ⟨cs, hb'.kept hk hb, hs, hc⟩
theorem BRow.congr {w : World} {g n : Nat} {d d' : Nat → Bool} (h : BRow w g n d) (e : ∀ i, i < n → d i = d' i) : BRow w g n d' := by
  obtain ⟨cs, hb', hs, hc⟩ := h
  exact ⟨cs, hb', hs, fun i hi => by rw [← e i hi]; exact hc i hi⟩

/-- WHAT A READER IS TOLD of a slice of ints: 'f i' is its element number i -/
def Ints (w : World) (a : Option Addr) (n : Nat) (f : Nat → Int) : Prop := n = 0 ∨ ∃ b off, a = some ⟨b, off, none⟩ ∧ ∀ i, i < n → w.cell? ⟨b, off + i, none⟩ = some (.int .i64 (f i))
/-- .. of a slice of bools -/
def Bools (w : World) (a : Option Addr) (n : Nat) (f : Nat → Bool) : Prop := n = 0 ∨ ∃ b off, a = some ⟨b, off, none⟩ ∧ ∀ i, i < n → w.cell? ⟨b, off + i, none⟩ = some (.bool (f i))

theorem Ints.later {w w' : World} {a : Option Addr} {n : Nat} {f : Nat → Int} (h : Ints w a n f) (hb : Below w.heap.size w w') : Ints w' a n f := by
  rcases h with h | ⟨b, off, ha, hc⟩
  · exact .inl h
  · exact .inr ⟨b, off, ha, fun i hi => cell_later hb (hc i hi)⟩
theorem Bools.later {w w' : World} {a : Option Addr} {n : Nat} {f : Nat → Bool} (h : Bools w a n f) (hb : Below w.heap.size w w') : Bools w' a n f := by
  rcases h with h | ⟨b, off, ha, hc⟩
  · exact .inl h
  · exact .inr ⟨b, off, ha, fun i hi => cell_later hb (hc i hi)⟩
theorem Ints.drewN {w : World} {a : Option Addr} {n : Nat} {f : Nat → Int} (h : Ints w a n f) (k : Nat) : Ints (w.drewN k) a n f := h
theorem Bools.drewN {w : World} {a : Option Addr} {n : Nat} {f : Nat → Bool} (h : Bools w a n f) (k : Nat) : Bools (w.drewN k) a n f := h
theorem Ints.congr {w : World} {a : Option Addr} {n : Nat} {f f' : Nat → Int} (h : Ints w a n f) (e : ∀ i, i < n → f i = f' i) : Ints w a n f' := by
  rcases h with h | ⟨b, off, ha, hc⟩
  · exact .inl h
  · exact .inr ⟨b, off, ha, fun i hi => by rw [← e i hi]; exact hc i hi⟩
theorem IRow.ints {w : World} {g n : Nat} {d : Nat → Int} (h : IRow w g n d) : Ints w (some ⟨g, 0, none⟩) n d := .inr ⟨g, 0, rfl, fun i hi => by rw [Nat.zero_add]; exact h.cell hi⟩
theorem BRow.bools {w : World} {g n : Nat} {d : Nat → Bool} (h : BRow w g n d) : Bools w (some ⟨g, 0, none⟩) n d := .inr ⟨g, 0, rfl, fun i hi => by rw [Nat.zero_add]; exact h.cell hi⟩

theorem info3 : (Try.prog.info? 3).map (fun i => (i.zero, i.size, i.bytes)) = some (some (.int .i64 0), 1, 8) := by kernel_rfl
theorem info4 : (Try.prog.info? 4).map (fun i => (i.zero, i.size, i.bytes)) = some (some (.bool false), 1, 1) := by kernel_rfl

theorem made_size (z : Value) (n : Nat) : (madeCells #[z] n).size = n := by simp [madeCells]
theorem made_get (z : Value) (n i : Nat) (hi : i < n) : (madeCells #[z] n)[i]? = some z := by
  unfold madeCells
  rw [Array.getElem?_map, Array.getElem?_range, if_pos hi]
  simp [Nat.mod_one]

/-- make([]int, n) -/
theorem make_ints (n : Nat) (hn : n ≤ 1048576) (w : World) : (Instr.makeSlice 22 (.int .i64 (n : Int)) (.int .i64 (n : Int))).run Try.prog w = .ok (.slice (some ⟨w.heap.size, 0, none⟩) n n) (w.alloc (.cells (madeCells #[.int .i64 0] n) 3)) :=
  run_make_row' (P := Try.prog) 22 3 (.int .i64 0) 8 Try.underlying22 info3 rfl .i64 .i64 n (by omega) (by omega) w
/-- make([]int, 0, n) -/
theorem make_ints0 (n : Nat) (hn : n ≤ 1048576) (w : World) : (Instr.makeSlice 22 (.int .i64 0) (.int .i64 (n : Int))).run Try.prog w = .ok (.slice (some ⟨w.heap.size, 0, none⟩) 0 n) (w.alloc (.cells (madeCells #[.int .i64 0] n) 3)) := by
  obtain ⟨i, hi, hz, hs, hb⟩ := info_parts info3
  have h := run_make (P := Try.prog) w 22 3 i _ Try.underlying22 hi hz .i64 .i64 0 n (by omega) (by omega) (by rw [hb]; omega) (by omega)
  rw [hs] at h
  simpa [Value.cells] using h
/-- make([]bool, n) -/
theorem make_bools (n : Nat) (hn : n ≤ 1048576) (w : World) : (Instr.makeSlice 23 (.int .i64 (n : Int)) (.int .i64 (n : Int))).run Try.prog w = .ok (.slice (some ⟨w.heap.size, 0, none⟩) n n) (w.alloc (.cells (madeCells #[.bool false] n) 4)) :=
  run_make_row' (P := Try.prog) 23 4 (.bool false) 1 Try.underlying23 info4 rfl .i64 .i64 n (by omega) (by omega) w

theorem irow_made (w : World) (n : Nat) : IRow (w.alloc (.cells (madeCells #[.int .i64 0] n) 3)) w.heap.size n (fun _ => 0) :=
  ⟨_, Blk.new w _ 3, made_size _ n, fun i hi => made_get _ n i hi⟩
theorem brow_made (w : World) (n : Nat) : BRow (w.alloc (.cells (madeCells #[.bool false] n) 4)) w.heap.size n (fun _ => false) :=
  ⟨_, Blk.new w _ 4, made_size _ n, fun i hi => made_get _ n i hi⟩

theorem ret_bool {a b : Bool} (h : a = b) : Ending.returned (.bool a) = .returned (.bool b) := by rw [h]
theorem ret_int {a b : Int} (h : a = b) : Ending.returned (.int .i64 a) = .returned (.int .i64 b) := by rw [h]
end Go.Proofs.Qxb6608983a
