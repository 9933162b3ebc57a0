import Derived.Test.Qxb6608983aPlant
set_option linter.unusedVariables false
set_option linter.unusedSimpArgs false
namespace Go.Proofs.Qxb6608983a
open Go.ChangeShapes Go.WideShapes Go.ChangeAt Go.RowKit
open G (upd upd_same upd_other)

theorem newForest_any (Wk gof n m cl : Nat) (al : Option Addr) (most : Int) (w : World) :
    Calls Try.prog 32 #[.pointer (some ⟨Wk, 0, none⟩), .slice al m cl, .slice (some ⟨gof, 0, none⟩) n n, .int .i64 most] w fun e w' => e = .returned (.pointer (some ⟨w.heap.size, 0, none⟩)) ∧
      w' = w.alloc (.cells #[.pointer (some ⟨Wk, 0, none⟩), .slice al m cl, .pointer none, .slice none 0 0, .int .i64 0, .slice (some ⟨gof, 0, none⟩) n n, .int .i64 most] 75) := by
  go_enter Try.func32, Try.ntmps32
  go_wp2_with fail
  go_ret
  exact ⟨rfl, rfl⟩

theorem ZZkeep_any {R : Ending → World → Prop} (Fo : Nat) (p l : Int) (w : World) (h : Calls Try.prog 46 #[.pointer (some ⟨Fo, 0, none⟩), .int .i64 p, .int .i64 l] w fun e w' => ∃ v, e = .returned v ∧ R e w') :
    Calls Try.prog 33 #[.pointer (some ⟨Fo, 0, none⟩), .int .i64 p, .int .i64 l] w R := by
  go_enter Try.func33, Try.ntmps33
  go_wp2_with fail
  refine h.mono ?_
  rintro e w1 ⟨v, rfl, hR⟩
  go_wp2_with fail
  exact hR

theorem kept_any (Fo : Nat) (cs : Array Value) (v : Int) (w : World) (hB : Blk w Fo cs 75) (h : cs[4]? = some (.int .i64 v)) :
    Calls Try.prog 34 #[.pointer (some ⟨Fo, 0, none⟩)] w fun e w' => e = .returned (.int .i64 v) ∧ w' = w := by
  have c := hB.cell h
  go_enter Try.func34, Try.ntmps34
  go_wp2_with fail
  go_ret
  exact ⟨rfl, rfl⟩
theorem treeDist_any (T : Nat) (cs : Array Value) (v : Value) (w : World) (hB : Blk w T cs 78) (h : cs[3]? = some v) :
    Calls Try.prog 36 #[.pointer (some ⟨T, 0, none⟩)] w fun e w' => e = .returned v ∧ w' = w := by
  have c := hB.cell h
  go_enter Try.func36, Try.ntmps36
  go_wp2_with fail
  go_ret
  exact ⟨rfl, rfl⟩
theorem treeEcc_any (T : Nat) (cs : Array Value) (v : Value) (w : World) (hB : Blk w T cs 78) (h : cs[7]? = some v) :
    Calls Try.prog 37 #[.pointer (some ⟨T, 0, none⟩)] w fun e w' => e = .returned v ∧ w' = w := by
  have c := hB.cell h
  go_enter Try.func37, Try.ntmps37
  go_wp2_with fail
  go_ret
  exact ⟨rfl, rfl⟩
theorem treeQueue_any (T : Nat) (cs : Array Value) (v : Value) (w : World) (hB : Blk w T cs 78) (h : cs[5]? = some v) :
    Calls Try.prog 38 #[.pointer (some ⟨T, 0, none⟩)] w fun e w' => e = .returned v ∧ w' = w := by
  have c := hB.cell h
  go_enter Try.func38, Try.ntmps38
  go_wp2_with fail
  go_ret
  exact ⟨rfl, rfl⟩
end Go.Proofs.Qxb6608983a
