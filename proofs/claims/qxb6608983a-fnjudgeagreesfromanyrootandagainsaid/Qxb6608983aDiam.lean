import Derived.Test.Qxb6608983aFloyd
set_option linter.unusedVariables false
set_option linter.unusedSimpArgs false
namespace Go.Proofs.Qxb6608983a
open Go.ChangeShapes Go.WideShapes Go.ChangeAt Go.RowKit
open G (upd upd_same upd_other upd2)

/-- the widest pair so far: the rows before u, row u up to v -/
def Dm (n : Nat) (DD : Nat → Nat → Int) (r u v : Nat) (W : Int) : Prop :=
  (∀ a b, a < n → b < n → (a < u ∨ (a = u ∧ b < v)) → 0 ≤ DD r a → 0 ≤ DD r b → DD a b ≤ W) ∧ (∃ a b, a < n ∧ b < n ∧ 0 ≤ DD r a ∧ 0 ≤ DD r b ∧ DD a b = W)

theorem Dm.skip {n : Nat} {DD : Nat → Nat → Int} {r u v : Nat} {W : Int} (h : Dm n DD r u v W) (hs : DD r v < 0 ∨ DD u v ≤ W) : Dm n DD r u (v + 1) W :=
  ⟨fun a b ha hb hab h1 h2 => by
    by_cases e : a = u ∧ b = v
    · obtain ⟨rfl, rfl⟩ := e; omega
    · exact h.1 a b ha hb (by omega) h1 h2, h.2⟩
theorem Dm.take {n : Nat} {DD : Nat → Nat → Int} {r u v : Nat} {W : Int} (h : Dm n DD r u v W) (hu : u < n) (hv : v < n) (h1 : 0 ≤ DD r u) (h2 : 0 ≤ DD r v) (hs : W < DD u v) : Dm n DD r u (v + 1) (DD u v) :=
  ⟨fun a b ha hb hab h1 h2 => by
    by_cases e : a = u ∧ b = v
    · obtain ⟨rfl, rfl⟩ := e; omega
    · have := h.1 a b ha hb (by omega) h1 h2; omega, ⟨u, v, hu, hv, h1, h2, rfl⟩⟩
theorem Dm.row {n : Nat} {DD : Nat → Nat → Int} {r u : Nat} {W : Int} (h : Dm n DD r u n W) : Dm n DD r (u + 1) 0 W :=
  ⟨fun a b ha hb hab h1 h2 => h.1 a b ha hb (by omega) h1 h2, h.2⟩
theorem Dm.skipRow {n : Nat} {DD : Nat → Nat → Int} {r u : Nat} {W : Int} (h : Dm n DD r u 0 W) (hs : DD r u < 0) : Dm n DD r (u + 1) 0 W :=
  ⟨fun a b ha hb hab h1 h2 => by
    by_cases e : a = u
    · subst e; omega
    · exact h.1 a b ha hb (by omega) h1 h2, h.2⟩

set_option maxHeartbeats 2000000 in
set_option maxRecDepth 100000 in
theorem diam_any (g n N r : Nat) (DD : Nat → Nat → Int) (w : World) (hn : n ≤ 256) (hN : Hid (n * n = N)) (hr : r < n) (hrow : IRow w g N (flat n DD)) (hr0 : Hid (DD r r = 0)) :
    Calls Try.prog 26 #[.int .i64 n, .int .i64 r, .slice (some ⟨g, 0, none⟩) N N] w fun e w' => ∃ W, e = .returned (.int .i64 W) ∧ G.IsDiam n DD r W ∧ 0 ≤ W ∧ ∃ nd, w' = w.drewN nd := by
  go_enter Try.func26, Try.ntmps26
  go_wp2
  go_loopw [7, 8] (fun s i wr => ∃ (u : Nat) (W : Int), u ≤ n ∧ s = .int .i64 W ∧ i = .int .i64 u ∧ 0 ≤ W ∧ Hid (Dm n DD r u 0 W) ∧ ∃ nd, wr = w.drewN nd) (fun _ i _ => n - (intOf i).toNat)
  case atStart => exact ⟨0, 0, Nat.zero_le _, rfl, rfl, Int.le_refl _, ⟨fun a b _ _ h => by omega, ⟨r, r, hr, hr, by rw [hr0.out]; omega, by rw [hr0.out]; omega, hr0.out⟩⟩, 0, rfl⟩
  case round =>
    obtain ⟨u, W, hu, rfl, rfl, hW, hdm, nd, rfl⟩ := hrel
    by_cases hun : u < n
    · obtain ⟨q, x, hx, w1, w2, hxN⟩ := idx2 hN hn hr hun
      have e1 : (w.drewN nd).cell? ⟨g, x, none⟩ = some (.int .i64 (DD r u)) := hrow.get2 hN hr hun hx
      have hui : (u : Int) < (n : Int) := by omega
      rcases Int.lt_or_le (DD r u) 0 with hneg | hpos
      · have hs : Hid _ := hdm.out.skipRow hneg
        go_wp2
        go_roundw
        case rel => exact ⟨u + 1, W, by omega, rfl, by go_num, hW, hs, _, rfl⟩
        case measure => simp [intOf]; omega
      · go_wp2
        go_loopw [7, 9] (fun s i wr => ∃ (v : Nat) (W : Int), v ≤ n ∧ s = .int .i64 W ∧ i = .int .i64 v ∧ 0 ≤ W ∧ Hid (Dm n DD r u v W) ∧ ∃ nd, wr = w.drewN nd) (fun _ i _ => n - (intOf i).toNat)
        case atStart => exact ⟨0, W, Nat.zero_le _, rfl, rfl, hW, hdm, _, rfl⟩
        case round =>
          clear hdm hW e1
          obtain ⟨v, W, hv, rfl, rfl, hW, hdm, nd, rfl⟩ := hrel
          by_cases hvn : v < n
          · obtain ⟨x2, hx2, v2, hx2N⟩ := idx3 hN hn hr hvn w1
            obtain ⟨q3, x3, hx3, y1, y2, hx3N⟩ := idx2 hN hn hun hvn
            have e2 : (w.drewN nd).cell? ⟨g, x2, none⟩ = some (.int .i64 (DD r v)) := hrow.get2 hN hr hvn hx2
            have e3 : (w.drewN nd).cell? ⟨g, x3, none⟩ = some (.int .i64 (DD u v)) := hrow.get2 hN hun hvn hx3
            have hvi : (v : Int) < (n : Int) := by omega
            rcases Int.lt_or_le (DD r v) 0 with hneg | hpos2
            · have hs : Hid _ := hdm.out.skip (.inl hneg)
              have g1 : decide (0 ≤ DD r v) = false := by simp; omega
              go_wp2
              go_roundw
              case rel => exact ⟨v + 1, W, by omega, rfl, by go_num, hW, hs, _, rfl⟩
              case measure => simp [intOf]; omega
            · have g1 : decide (0 ≤ DD r v) = true := by simp; omega
              rcases Int.lt_or_le W (DD u v) with hgt | hle
              · have hs : Hid _ := hdm.out.take hun hvn hpos hpos2 hgt
                have g2 : decide (W < DD u v) = true := by simp; omega
                go_wp2
                go_roundw
                case rel => exact ⟨v + 1, DD u v, by omega, rfl, by go_num, by omega, hs, _, rfl⟩
                case measure => simp [intOf]; omega
              · have hs : Hid _ := hdm.out.skip (.inr hle)
                have g2 : decide (W < DD u v) = false := by simp; omega
                go_wp2
                go_roundw
                case rel => exact ⟨v + 1, W, by omega, rfl, by go_num, hW, hs, _, rfl⟩
                case measure => simp [intOf]; omega
          · obtain rfl : n = v := by omega
            have hs : Hid _ := hdm.out.row
            go_wp2
            go_roundw
            case rel => exact ⟨u + 1, W, by omega, rfl, by go_num, hW, hs, _, rfl⟩
            case measure => simp [intOf]; omega
    · obtain rfl : n = u := by omega
      go_wp2
      go_ret
      exact ⟨W, rfl, ⟨fun a b ha hb => hdm.out.1 a b ha hb (by omega), hdm.out.2⟩, hW, _, rfl⟩
end Go.Proofs.Qxb6608983a
