import Derived.Test.Qxb6608983aKeep
import Derived.Test.Qxb6608983aWrap
import Derived.Test.Qxb6608983aHolds
set_option linter.unusedVariables false
set_option linter.unusedSimpArgs false
namespace Go.Proofs.Qxb6608983a
open Go.ChangeShapes Go.WideShapes Go.ChangeAt Go.RowKit
open G (upd upd_same upd_other)

/-- the forest of the laws, as it is set up -/
theorem setup_state {w w1 w2 w3 w4 w5 w6 : World} {n m : Nat} {F C : Nat → Bool} {Ps : Nat → List (Nat × Nat)} {most : Int}
    (hf : BRow w1 w.heap.size n F) (b1 : Below w.heap.size w w1) (s1 : w1.heap.size = w.heap.size + 1)
    (hc : BRow w2 w1.heap.size m C) (b2 : Below w1.heap.size w1 w2) (s2 : w2.heap.size = w1.heap.size + 1)
    (hp : PIn w3 (w2.heap.size + 1) w2.heap.size n Ps) (b3 : Below w2.heap.size w2 w3) (s3 : w2.heap.size + 1 ≤ w3.heap.size)
    (hw : ∃ cs, Blk w4 w3.heap.size cs 58 ∧ WalkCells cs n m w2.heap.size w.heap.size w1.heap.size (w3.heap.size + 1) (w3.heap.size + 2) (w3.heap.size + 3) 0) (b4 : Below w3.heap.size w3 w4) (s4 : w4.heap.size = w3.heap.size + 4)
    (ho : IRow w5 w4.heap.size n (fun _ => -1)) (b5 : Below w4.heap.size w4 w5) (s5 : w5.heap.size = w4.heap.size + 1)
    (b6 : Below w5.heap.size w5 w6) (s6 : w6.heap.size = w5.heap.size + 1) :
    FApart w6.heap.size w3.heap.size w4.heap.size w.heap.size w1.heap.size w2.heap.size w3.heap.size (w6.heap.size + 1) ∧
    FState (w6.alloc (.cells #[.pointer (some ⟨w3.heap.size, 0, none⟩), .slice (some ⟨w5.heap.size, 0, none⟩) m m, .pointer none, .slice none 0 0, .int .i64 0, .slice (some ⟨w4.heap.size, 0, none⟩) n n, .int .i64 most] 75))
      w6.heap.size w3.heap.size n m w2.heap.size w3.heap.size w.heap.size w1.heap.size w4.heap.size (w6.heap.size + 1) most (some ⟨w5.heap.size, 0, none⟩) m none 0 0 [] (fun _ => -1) F C Ps ∧
    Below w.heap.size w (w6.alloc (.cells #[.pointer (some ⟨w3.heap.size, 0, none⟩), .slice (some ⟨w5.heap.size, 0, none⟩) m m, .pointer none, .slice none 0 0, .int .i64 0, .slice (some ⟨w4.heap.size, 0, none⟩) n n, .int .i64 most] 75)) := by
  have k2 := Keeps.of_below b2
  have k3 := Keeps.of_below b3
  have k4 := Keeps.of_below b4
  have k5 := Keeps.of_below b5
  have k6 := Keeps.of_below b6
  have k7 : Keeps (fun _ => False) w6 (w6.alloc (.cells #[.pointer (some ⟨w3.heap.size, 0, none⟩), .slice (some ⟨w5.heap.size, 0, none⟩) m m, .pointer none, .slice none 0 0, .int .i64 0, .slice (some ⟨w4.heap.size, 0, none⟩) n n, .int .i64 most] 75)) := (Keeps.refl _ _).alloc _
  have k47 := ((k5.trans k6 (fun _ _ h => h)).trans k7 (fun _ _ h => h))
  have k37 := k4.trans k47 (fun _ _ h => h)
  have k27 := k3.trans k37 (fun _ _ h => h)
  have k17 := k2.trans k27 (fun _ _ h => h)
  have k07 := (Keeps.of_below b1).trans k17 (fun _ _ h => h)
  obtain ⟨cs, hb, hwc⟩ := hw
  refine ⟨⟨by omega, by omega, by omega, by omega, by omega, by omega, by omega, by omega, by omega, fun b h1 h2 => by omega, by omega⟩,
    ⟨Blk.new w6 _ 75, ⟨cs, _, _, _, hb.kept k47 id, hwc⟩, ⟨rfl, .inl ⟨rfl, rfl⟩⟩, hp.ports.kept k37 (fun _ _ _ => id), hf.kept k17 id, hc.kept k27 id, ho.kept (k6.trans k7 (fun _ _ h => h)) id, by simp⟩,
    k07.below (Nat.le_refl _) (fun _ _ => id)⟩

/-- a link restored: the law's usable links are those of the search -/
theorem usableX_restored (A B : Nat → Nat) (F C : Nat → Bool) (l i : Nat) : usableX A B F C l i = G.usable A B F (updB C l false) i := by
  unfold usableX G.usable
  by_cases e : i = l
  · subst e
    rw [updB_same]
    simp
  · rw [updB_other _ _ _ e]
    have : ((i : Int) != (l : Int)) = true := by simp; omega
    rw [this]
    simp [Bool.and_assoc]
end Go.Proofs.Qxb6608983a
