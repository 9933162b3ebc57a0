import Derived.Test.Qxb6608983aTree6
import Derived.Test.Qxb6608983aPorts
import Derived.Deep.RegionLaw
set_option linter.unusedVariables false
set_option linter.unusedSimpArgs false
namespace Go.Proofs.Qxb6608983a
open Go.ChangeShapes Go.WideShapes Go.ChangeAt Go.RowKit
open G (upd upd_same upd_other)

/-- the blocks of a search lie apart -/
structure Apart (T lo hi gf gc gd gv gq : Nat) : Prop where
  Td : T ≠ gd
  Tv : T ≠ gv
  Tq : T ≠ gq
  dv : gd ≠ gv
  dq : gd ≠ gq
  vq : gv ≠ gq
  pl : ∀ b, lo ≤ b → b < hi → ¬ (b = T ∨ b = gd ∨ b = gv ∨ b = gq)
  f : ¬ (gf = T ∨ gf = gd ∨ gf = gv ∨ gf = gq)
  c : ¬ (gc = T ∨ gc = gd ∨ gc = gv ∨ gc = gq)

/-- MEMORY WHILE A SEARCH GOES: the distances d, the queue Q -/
structure RState (w0 : World) (T : Nat) (t : TypeId) (cs : Array Value) (n gd gv gq : Nat) (w : World) (d : Nat → Int) (Q : List Nat) : Prop where
  blk : Blk w T (cs.setIfInBounds 5 (.slice (some ⟨gq, 0, none⟩) Q.length n)) t
  dist : IRow w gd n d
  via : ∃ v, IRow w gv n v
  que : ∃ qf, IRow w gq n qf ∧ ∀ i, i < Q.length → qf i = (Q.getD i 0 : Nat)
  keeps : Keeps (fun b => b = T ∨ b = gd ∨ b = gv ∨ b = gq) w0 w

section
variable {w0 w : World} {T : Nat} {t : TypeId} {cs : Array Value} {n m lo hi gf gc gd gv gq q : Nat} {ac : Option Addr} {d : Nat → Int} {Q : List Nat}

theorem RState.alloc (h : RState w0 T t cs n gd gv gq w d Q) (o : Obj) : RState w0 T t cs n gd gv gq (w.alloc o) d Q := by
  obtain ⟨v, hv⟩ := h.via
  obtain ⟨qf, hq, hq2⟩ := h.que
  exact ⟨h.blk.alloc o, h.dist.alloc o, ⟨v, hv.alloc o⟩, ⟨qf, hq.alloc o, hq2⟩, h.keeps.alloc o⟩
theorem RState.drewN (h : RState w0 T t cs n gd gv gq w d Q) (k : Nat) : RState w0 T t cs n gd gv gq (w.drewN k) d Q :=
  ⟨h.blk, h.dist, h.via, h.que, h.keeps.drewN k⟩
theorem RState.setDist (h : RState w0 T t cs n gd gv gq w d Q) (hA : Apart T lo hi gf gc gd gv gq) {v : Nat} (hv : v < n) (x : Int) : RState w0 T t cs n gd gv gq (w.setCell ⟨gd, v, none⟩ (.int .i64 x)) (upd d v x) Q := by
  obtain ⟨vv, hv'⟩ := h.via
  obtain ⟨qf, hq, hq2⟩ := h.que
  exact ⟨h.blk.other (a := ⟨gd, v, none⟩) hA.Td _, h.dist.set hv x, ⟨vv, hv'.other (a := ⟨gd, v, none⟩) (Ne.symm hA.dv) _⟩, ⟨qf, hq.other (a := ⟨gd, v, none⟩) (Ne.symm hA.dq) _, hq2⟩, h.keeps.setCell (p := ⟨gd, v, none⟩) (fun _ => .inr (.inl rfl)) _⟩
theorem RState.setVia (h : RState w0 T t cs n gd gv gq w d Q) (hA : Apart T lo hi gf gc gd gv gq) {v : Nat} (hv : v < n) (x : Int) : RState w0 T t cs n gd gv gq (w.setCell ⟨gv, v, none⟩ (.int .i64 x)) d Q := by
  obtain ⟨vv, hv'⟩ := h.via
  obtain ⟨qf, hq, hq2⟩ := h.que
  exact ⟨h.blk.other (a := ⟨gv, v, none⟩) hA.Tv _, h.dist.other (a := ⟨gv, v, none⟩) hA.dv _, ⟨_, hv'.set hv x⟩, ⟨qf, hq.other (a := ⟨gv, v, none⟩) (Ne.symm hA.vq) _, hq2⟩, h.keeps.setCell (p := ⟨gv, v, none⟩) (fun _ => .inr (.inr (.inl rfl))) _⟩
/-- one more in the queue: its cell, then the field -/
theorem RState.push (h : RState w0 T t cs n gd gv gq w d Q) (hA : Apart T lo hi gf gc gd gv gq) (hl : Q.length < n) (hs : 6 ≤ cs.size) (v : Nat) :
    RState w0 T t cs n gd gv gq ((w.setCell ⟨gq, Q.length, none⟩ (.int .i64 v)).setCell ⟨T, 5, none⟩ (.slice (some ⟨gq, 0, none⟩) (Q.length + 1) n)) d (Q ++ [v]) := by
  obtain ⟨vv, hv'⟩ := h.via
  obtain ⟨qf, hq, hq2⟩ := h.que
  have b1 := (h.blk.other (a := ⟨gq, Q.length, none⟩) hA.Tq (.int .i64 v)).set 5 (.slice (some ⟨gq, 0, none⟩) (Q.length + 1) n)
  refine ⟨?_, (h.dist.other (a := ⟨gq, Q.length, none⟩) hA.dq _).other (a := ⟨T, 5, none⟩) (Ne.symm hA.Td) _, ⟨vv, (hv'.other (a := ⟨gq, Q.length, none⟩) hA.vq _).other (a := ⟨T, 5, none⟩) (Ne.symm hA.Tv) _⟩, ⟨_, (hq.set hl v).other (a := ⟨T, 5, none⟩) (Ne.symm hA.Tq) _, fun i hi => ?_⟩, (h.keeps.setCell (p := ⟨gq, Q.length, none⟩) (fun _ => .inr (.inr (.inr rfl))) _).setCell (p := ⟨T, 5, none⟩) (fun _ => .inl rfl) _⟩
  · have e : (cs.setIfInBounds 5 (.slice (some ⟨gq, 0, none⟩) Q.length n)).setIfInBounds 5 (.slice (some ⟨gq, 0, none⟩) (Q.length + 1) n) = cs.setIfInBounds 5 (.slice (some ⟨gq, 0, none⟩) (Q ++ [v]).length n) := by
      rw [Array.setIfInBounds_setIfInBounds, List.length_append]; rfl
    rw [← e]
    exact b1
  · rw [List.length_append] at hi
    by_cases e : i = Q.length
    · subst e; rw [upd_same, G.getD_snoc_last]
    · have hi' : i < Q.length := by simp at hi; omega
      rw [upd_other _ _ _ e, G.getD_snoc_left hi']; exact hq2 i hi'

theorem RState.c0 (h : RState w0 T t cs n gd gv gq w d Q) (hW : WalkCells cs n m lo gf ac gd gv gq q) : w.cell? ⟨T, 0, none⟩ = some (.slice (some ⟨lo, 0, none⟩) n n) := h.blk.cell (by rw [Array.getElem?_setIfInBounds_ne (by decide)]; exact hW.c0)
theorem RState.c1 (h : RState w0 T t cs n gd gv gq w d Q) (hW : WalkCells cs n m lo gf ac gd gv gq q) : w.cell? ⟨T, 1, none⟩ = some (.slice (some ⟨gf, 0, none⟩) n n) := h.blk.cell (by rw [Array.getElem?_setIfInBounds_ne (by decide)]; exact hW.c1)
theorem RState.c2 (h : RState w0 T t cs n gd gv gq w d Q) (hW : WalkCells cs n m lo gf ac gd gv gq q) : w.cell? ⟨T, 2, none⟩ = some (.slice ac m m) := h.blk.cell (by rw [Array.getElem?_setIfInBounds_ne (by decide)]; exact hW.c2)
theorem RState.c3 (h : RState w0 T t cs n gd gv gq w d Q) (hW : WalkCells cs n m lo gf ac gd gv gq q) : w.cell? ⟨T, 3, none⟩ = some (.slice (some ⟨gd, 0, none⟩) n n) := h.blk.cell (by rw [Array.getElem?_setIfInBounds_ne (by decide)]; exact hW.c3)
theorem RState.c4 (h : RState w0 T t cs n gd gv gq w d Q) (hW : WalkCells cs n m lo gf ac gd gv gq q) : w.cell? ⟨T, 4, none⟩ = some (.slice (some ⟨gv, 0, none⟩) n n) := h.blk.cell (by rw [Array.getElem?_setIfInBounds_ne (by decide)]; exact hW.c4)
theorem RState.c5 (h : RState w0 T t cs n gd gv gq w d Q) (hW : WalkCells cs n m lo gf ac gd gv gq q) : w.cell? ⟨T, 5, none⟩ = some (.slice (some ⟨gq, 0, none⟩) Q.length n) := h.blk.cell (by rw [Array.getElem?_setIfInBounds_self_of_lt (by have := hW.size; omega)])
theorem RState.qcell (h : RState w0 T t cs n gd gv gq w d Q) {i : Nat} (hi : i < Q.length) (hl : Q.length ≤ n) : w.cell? ⟨gq, i, none⟩ = some (.int .i64 (Q.getD i 0 : Nat)) := by
  obtain ⟨qf, hq, hq2⟩ := h.que
  rw [← hq2 i hi]
  exact hq.cell (by omega)
theorem RState.lt (h : RState w0 T t cs n gd gv gq w d Q) : T < w.heap.size ∧ gd < w.heap.size ∧ gv < w.heap.size ∧ gq < w.heap.size := by
  obtain ⟨vv, hv'⟩ := h.via
  obtain ⟨qf, hq, hq2⟩ := h.que
  exact ⟨h.blk.lt, h.dist.lt, hv'.lt, hq.lt⟩
end
end Go.Proofs.Qxb6608983a
