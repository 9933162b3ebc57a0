import Derived.Test.Qxb6608983aPlant6
import Derived.Laws.CopyRow
set_option linter.unusedVariables false
set_option linter.unusedSimpArgs false
namespace Go.Proofs.Qxb6608983a
open Go.ChangeShapes Go.WideShapes Go.ChangeAt Go.RowKit
open G (upd upd_same upd_other)

/-- a survey's cells -/
def sur (Wk gu gs go n m cl : Nat) (al : Option Addr) (dia : Int) : Array Value :=
  #[.pointer (some ⟨Wk, 0, none⟩), .slice al m cl, .int .i64 0, .int .i64 0, .int .i64 0, .slice none 0 0, .slice none 0 0, .pointer none, .slice (some ⟨gu, 0, none⟩) n n, .slice (some ⟨gs, 0, none⟩) n n,
    .slice (some ⟨go, 0, none⟩) (n + 2) (n + 2), .slice none 0 0, .slice none 0 0, .int .i64 0, .int .i64 0, .int .i64 0, .int .i64 dia]

section
variable {w : World} {S Wk gu gs go n m cl : Nat} {al : Option Addr} {dia : Int}
theorem sur0 (h : Blk w S (sur Wk gu gs go n m cl al dia) 68) : w.cell? ⟨S, 0, none⟩ = some (.pointer (some ⟨Wk, 0, none⟩)) := h.cell (i := 0) rfl
theorem sur8 (h : Blk w S (sur Wk gu gs go n m cl al dia) 68) : w.cell? ⟨S, 8, none⟩ = some (.slice (some ⟨gu, 0, none⟩) n n) := h.cell (i := 8) rfl
theorem sur9 (h : Blk w S (sur Wk gu gs go n m cl al dia) 68) : w.cell? ⟨S, 9, none⟩ = some (.slice (some ⟨gs, 0, none⟩) n n) := h.cell (i := 9) rfl
theorem sur10 (h : Blk w S (sur Wk gu gs go n m cl al dia) 68) : w.cell? ⟨S, 10, none⟩ = some (.slice (some ⟨go, 0, none⟩) (n + 2) (n + 2)) := h.cell (i := 10) rfl
theorem sur16 (h : Blk w S (sur Wk gu gs go n m cl al dia) 68) : w.cell? ⟨S, 16, none⟩ = some (.int .i64 dia) := h.cell (i := 16) rfl
end

theorem newSurvey_any (Wk gu gs go n m cl : Nat) (al : Option Addr) (w : World) :
    Calls Try.prog 14 #[.pointer (some ⟨Wk, 0, none⟩), .slice al m cl, .slice (some ⟨gu, 0, none⟩) n n, .slice (some ⟨gs, 0, none⟩) n n, .slice (some ⟨go, 0, none⟩) (n + 2) (n + 2), .int .i64 0] w fun e w' => e = .returned (.pointer (some ⟨w.heap.size, 0, none⟩)) ∧
      w' = w.alloc (.cells (sur Wk gu gs go n m cl al 0) 68) := by
  go_enter Try.func14, Try.ntmps14
  go_wp2_with fail
  go_ret
  exact ⟨rfl, rfl⟩

theorem ZZtree_any {R : Ending → World → Prop} (x y : Value) (w : World) (h : Calls Try.prog 43 #[x, y] w fun e w' => ∃ v, e = .returned v ∧ R e w') : Calls Try.prog 22 #[x, y] w R := by
  go_enter Try.func22, Try.ntmps22
  go_wp2_with fail
  refine h.mono ?_
  rintro e w1 ⟨v, rfl, hR⟩
  go_wp2_with fail
  exact hR

theorem ZZplant_any {R : Ending → World → Prop} (x y : Value) (w : World) (h : Calls Try.prog 44 #[x, y] w fun e w' => e = .returned (.tuple #[]) ∧ R e w') : Calls Try.prog 23 #[x, y] w R := by
  go_enter Try.func23, Try.ntmps23
  go_wp2_with fail
  refine h.mono ?_
  rintro e w1 ⟨rfl, hR⟩
  go_wp2_with fail
  go_end0
  exact hR

theorem ZZjudge_any {R : Ending → World → Prop} (x y z : Value) (w : World) (h : Calls Try.prog 45 #[x, y, z] w fun e w' => e = .returned (.tuple #[]) ∧ R e w') : Calls Try.prog 24 #[x, y, z] w R := by
  go_enter Try.func24, Try.ntmps24
  go_wp2_with fail
  refine h.mono ?_
  rintro e w1 ⟨rfl, hR⟩
  go_wp2_with fail
  go_end0
  exact hR

theorem dia_any (S Wk gu gs go n m cl : Nat) (al : Option Addr) (dia : Int) (w : World) (hB : Blk w S (sur Wk gu gs go n m cl al dia) 68) :
    Calls Try.prog 25 #[.pointer (some ⟨S, 0, none⟩)] w fun e w' => e = .returned (.int .i64 dia) ∧ w' = w := by
  have c := sur16 hB
  go_enter Try.func25, Try.ntmps25
  go_wp2_with fail
  go_ret
  exact ⟨rfl, rfl⟩

theorem moves_any (S p : Value) (w : World) : Calls Try.prog 52 #[S, .int .i64 (-1), p] w fun e w' => e = .returned (.bool false) ∧ w' = w := by
  go_enter Try.func52, Try.ntmps52
  go_wp2_with fail
  go_ret
  exact ⟨rfl, rfl⟩

/-- distances where the walk has searched -/
theorem dist_walk (S Wk gu gs go n m cl n' d : Nat) (al : Option Addr) (dia : Int) (w : World) (hB : Blk w S (sur Wk gu gs go n m cl al dia) 68) {wcs : Array Value} {t : TypeId} (hW : Blk w Wk wcs t) (h3 : wcs[3]? = some (.slice (some ⟨d, 0, none⟩) n' n')) :
    Calls Try.prog 50 #[.pointer (some ⟨S, 0, none⟩), .pointer none, .int .i64 (-1)] w fun e w' => e = .returned (.slice (some ⟨d, 0, none⟩) n' n') ∧ w' = w := by
  have c := sur0 hB
  have c3 := hW.cell h3
  go_enter Try.func50, Try.ntmps50
  go_wp2_with fail
  go_ret
  exact ⟨rfl, rfl⟩

/-- .. where a tree has -/
theorem dist_tree (S : Value) (T n' d : Nat) (w : World) {tcs : Array Value} {t : TypeId} (hW : Blk w T tcs t) (h3 : tcs[3]? = some (.slice (some ⟨d, 0, none⟩) n' n')) :
    Calls Try.prog 50 #[S, .pointer (some ⟨T, 0, none⟩), .int .i64 (-1)] w fun e w' => e = .returned (.slice (some ⟨d, 0, none⟩) n' n') ∧ w' = w := by
  have c3 := hW.cell h3
  go_enter Try.func50, Try.ntmps50
  go_wp2_with fail
  go_ret
  exact ⟨rfl, rfl⟩

/-- searchFrom at the tree's own root -/
theorem search_root (S : Value) (T r tq lq c : Nat) (ecc : Int) (w : World) {tcs : Array Value} {t : TypeId} (hT : Blk w T tcs t) (h5 : tcs[5]? = some (.slice (some ⟨tq, 0, none⟩) lq c)) (h7 : tcs[7]? = some (.int .i64 ecc)) (h1 : 1 ≤ lq) (hq : w.cell? ⟨tq, 0, none⟩ = some (.int .i64 r)) :
    Calls Try.prog 49 #[S, .pointer (some ⟨T, 0, none⟩), .int .i64 (-1), .int .i64 r] w fun e w' => e = .returned (.tuple #[.int .i64 ecc, .pointer (some ⟨T, 0, none⟩)]) ∧ w' = w := by
  have c5 := hT.cell h5
  have c7 := hT.cell h7
  have hl : (0 : Int) < (lq : Int) := by omega
  go_enter Try.func49, Try.ntmps49
  go_wp2_with fail
  go_ret2
  exact ⟨rfl, rfl⟩

/-- searchFrom at another: the walk searches -/
theorem search_other {R : World → Int → Prop} (S Wk T r p tq lq c gu gs go n m cl : Nat) (al : Option Addr) (dia : Int) (w : World) (hB : Blk w S (sur Wk gu gs go n m cl al dia) 68) {tcs : Array Value} {t : TypeId} (hT : Blk w T tcs t) (h5 : tcs[5]? = some (.slice (some ⟨tq, 0, none⟩) lq c)) (h1 : 1 ≤ lq) (hq : w.cell? ⟨tq, 0, none⟩ = some (.int .i64 r)) (hne : p ≠ r)
    (h : Calls Try.prog 47 #[.pointer (some ⟨Wk, 0, none⟩), .int .i64 p] w fun e w' => ∃ a f, e = .returned (.tuple #[.int .i64 a, .int .i64 f]) ∧ R w' f) :
    Calls Try.prog 49 #[.pointer (some ⟨S, 0, none⟩), .pointer (some ⟨T, 0, none⟩), .int .i64 (-1), .int .i64 p] w fun e w' => ∃ f, e = .returned (.tuple #[.int .i64 f, .pointer none]) ∧ R w' f := by
  have c0 := sur0 hB
  have c5 := hT.cell h5
  have hl : (0 : Int) < (lq : Int) := by omega
  have hpr : ¬ (p : Int) = (r : Int) := by omega
  go_enter Try.func49, Try.ntmps49
  go_wp2_with fail
  refine h.mono ?_
  rintro e w1 ⟨a, f, rfl, hR⟩
  go_wp2_with fail
  go_ret2
  exact ⟨f, rfl, hR⟩

theorem zero_cells (k : Nat) : (Builtin.zeroCells #[.int .i64 0] k).toList = List.replicate k (Value.int .i64 0) := by
  unfold Builtin.zeroCells
  apply List.ext_getElem?
  intro i
  simp [List.getElem?_replicate, List.getElem?_range]
  by_cases h : i < k
  · simp [h, Nat.mod_one]
  · simp [h]

theorem run_clear_ints (ty : TypeId) (w : World) (g k cap : Nat) (cur : Array Value) (hg : Blk w g cur 3) (hk : 1 ≤ k) (hle : k ≤ cur.size) :
    (Builtin.clear_ #[22] ty #[.slice (some ⟨g, 0, none⟩) k cap]).run Try.prog w = .ok (.tuple #[]) (w.setRow g (List.replicate k (Value.int .i64 0) ++ cur.toList.drop k).toArray) := by
  obtain ⟨i0, hi, hz0, hz1, hz2⟩ := info_parts info3
  obtain ⟨k', rfl⟩ : ∃ k', k = k' + 1 := ⟨k - 1, by omega⟩
  have hs := run_storeCells_at (P := Try.prog) g 0 3 (List.replicate (k' + 1) (Value.int .i64 0)) 0 cur w hg (by simpa using hle) (fun v hv => by rw [(List.mem_replicate.1 hv).2]; rfl)
  unfold Builtin.clear_
  simp [run_underlying Try.underlying22, zeroValue, typeInfo, hi, hz0, Value.cells, zero_cells, hs]

theorem irow_cleared {w : World} {g N k : Nat} {f : Nat → Int} {cur : Array Value} (hb : Blk w g cur 3) (hs : cur.size = N) (hc : ∀ i, i < N → cur[i]? = some (.int .i64 (f i))) (hk : k ≤ N) :
    IRow (w.setRow g (List.replicate k (Value.int .i64 0) ++ cur.toList.drop k).toArray) g N (fun i => if i < k then 0 else f i) ∧ Keeps (fun b => b = g) w (w.setRow g (List.replicate k (Value.int .i64 0) ++ cur.toList.drop k).toArray) := by
  constructor
  · refine ⟨_, setRow_heap w g cur _ 3 _ hb, by simp [hs]; omega, fun i hi => ?_⟩
    by_cases h : i < k
    · simp [h, List.getElem?_append_left, List.getElem?_replicate]
    · have := hc i hi
      simp only [if_neg h]
      rw [← this]
      simp [List.getElem?_append_right, Nat.le_of_not_lt h]
  · exact ⟨rfl, rfl, rfl, by simp, fun k _ hk => setRow_other w g k _ hk⟩
end Go.Proofs.Qxb6608983a
