import Derived.Test.Qxb6613706aParts
namespace Go.Proofs.Qxb6613706a
open Go.ChangeShapes Go.WideShapes Go.ChangeAt Go.RowKit
open Go.ChangeMaps (open_string shut_string)

theorem cmp_neg : ∀ (a b : List UInt8), Lib.compareBytes b a = - Lib.compareBytes a b
  | [], [] => rfl
  | [], _ :: _ => rfl
  | _ :: _, [] => rfl
  | x :: a, y :: b => by
    have ih := cmp_neg a b
    unfold Lib.compareBytes
    by_cases h : x < y
    · have h' : ¬ y < x := fun h2 => by have := UInt8.lt_iff_toNat_lt.1 h; have := UInt8.lt_iff_toNat_lt.1 h2; omega
      simp [h, h']
    · by_cases h2 : y < x
      · simp [h, h2]
      · simp [h, h2, ih]

theorem cmp_bd : ∀ (a b : List UInt8), -1 ≤ Lib.compareBytes a b ∧ Lib.compareBytes a b ≤ 1
  | [], [] => by decide
  | [], _ :: _ => by simp [Lib.compareBytes]
  | _ :: _, [] => by simp [Lib.compareBytes]
  | x :: a, y :: b => by
    have ih := cmp_bd a b
    unfold Lib.compareBytes
    split
    · omega
    · split
      · omega
      · exact ih

theorem cmp_self : ∀ (a : List UInt8), Lib.compareBytes a a = 0
  | [] => rfl
  | x :: a => by
    unfold Lib.compareBytes
    have := UInt8.lt_irrefl x
    simp [this, cmp_self a]

theorem cmp_zero : ∀ (a b : List UInt8), Lib.compareBytes a b = 0 → a = b
  | [], [] => fun _ => rfl
  | [], _ :: _ => fun h => by simp [Lib.compareBytes] at h
  | _ :: _, [] => fun h => by simp [Lib.compareBytes] at h
  | x :: a, y :: b => fun h => by
    have ih := cmp_zero a b
    unfold Lib.compareBytes at h
    by_cases h1 : x < y
    · simp [h1] at h
    · by_cases h2 : y < x
      · simp [h1, h2] at h
      · rw [if_neg h1, if_neg h2] at h
        have : x = y := UInt8.le_antisymm (UInt8.not_lt.1 h2) (UInt8.not_lt.1 h1)
        rw [this, ih h]


theorem or_neg (a b : List UInt8) (c d : List UInt8) : orInt (Lib.compareBytes b a) (Lib.compareBytes d c) = - orInt (Lib.compareBytes a b) (Lib.compareBytes c d) := by
  unfold orInt
  rw [cmp_neg a b, cmp_neg c d]
  by_cases h : Lib.compareBytes a b = 0
  · rw [if_pos (by omega), if_pos h]
  · rw [if_neg (by omega), if_neg h]

end Go.Proofs.Qxb6613706a
