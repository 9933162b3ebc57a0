import Derived.Test.Qxb6608983aDist
set_option linter.unusedVariables false
namespace Go.Proofs.Qxb6608983a
open Go.ChangeShapes Go.WideShapes Go.ChangeAt Go.RowKit
open G (upd upd_same upd_other)

set_option maxHeartbeats 1000000 in
set_option maxRecDepth 100000 in
theorem holds_any (ad aq a0 a1 a2 a3 : Option Addr) (cd cq c0 c1 c2 c3 n m lq p : Nat) (A B : Nat → Nat) (F C : Nat → Bool) (x : Int) (D Qf : Nat → Int) (e : Int) (w : World) (hm : m ≤ 4096) (hn : n ≤ 4096)
    (hd : Ints w ad n D) (hq : Ints w aq lq Qf) (hlq : 1 ≤ lq) (hlq2 : lq ≤ 4096) (hq0 : Qf 0 = p) (hmax : ∀ v, v < n → D v ≤ e) (hat : ∃ v, v < n ∧ D v = e)
    (h0 : Ints w a0 m (fun i => A i)) (h1 : Ints w a1 m (fun i => B i)) (h2 : Bools w a2 n F) (h3 : Bools w a3 m C) (hE : G.Ends n m A B) (hD : G.IsDist n m A B (usableX A B F C x) p D) :
    Calls Try.prog 35 #[.slice ad n cd, .int .i64 e, .slice aq lq cq, .int .i64 p, .slice a0 m c0, .slice a1 m c1, .slice a2 n c2, .slice a3 m c3, .int .i64 x] w fun e' w' =>
      e' = .returned (.bool true) ∧ Below w.heap.size w w' := by
  have he0 : 0 ≤ e := by have := hmax p hD.src_lt; rw [hD.src0] at this; exact this
  rcases hq with h | ⟨bq, oq, rfl, hcq⟩
  · omega
  have eq0 : w.cell? ⟨bq, oq, none⟩ = some (.int .i64 p) := by have := hcq 0 (by omega); rw [hq0] at this; exact this
  have hl1 : (0 : Int) < (lq : Int) := by omega
  have hl2 : ((lq : Int) == 0) = false := by simp; omega
  have hn1 := hD.src_lt
  rcases hd with h | ⟨bd, od, rfl, hcd⟩
  · omega
  clear hcq hq0
  go_enter Try.func35, Try.ntmps35
  go_wp2_with fail
  refine (dist_any a0 a1 a2 a3 c0 c1 c2 c3 n m p A B F C x D w hm hn h0 h1 h2 h3 hE hD).mono ?_
  rintro e' w1 ⟨rfl, hrow, hbel⟩
  have eq1 := cell_later hbel eq0
  go_wp2_with fail
  go_loopw [20, 21] (fun s i wr => ∃ (k : Nat) (f : Int), k ≤ n ∧ s = .int .i64 f ∧ i = .int .i64 k ∧ 0 ≤ f ∧ f ≤ e ∧ Hid ((∀ v, v < k → D v ≤ f) ∧ (f = 0 ∨ ∃ v, v < k ∧ D v = f)) ∧ ∃ nd, wr = w1.drewN nd) (fun _ i _ => n - (intOf i).toNat)
  case atStart => exact ⟨0, 0, Nat.zero_le _, rfl, rfl, Int.le_refl _, he0, ⟨fun v hv => absurd hv (Nat.not_lt_zero _), .inl rfl⟩, 0, rfl⟩
  case round =>
    obtain ⟨k, f, hk, rfl, rfl, hf0, hf1, hf, nd, rfl⟩ := hrel
    by_cases hlt : k < n
    · have e1 := cell_later hbel (hcd k hlt)
      have e2 := hrow.cell hlt
      have hi1 : (k : Int) < (n : Int) := by omega
      have hk2 := hmax k hlt
      clear hcd
      by_cases hgt : f < D k
      · have hnew : Hid ((∀ v, v < k + 1 → D v ≤ D k) ∧ (D k = 0 ∨ ∃ v, v < k + 1 ∧ D v = D k)) := ⟨fun v hv => by
          by_cases ev : v = k
          · rw [ev]; exact Int.le_refl _
          · have := hf.out.1 v (by omega); omega, .inr ⟨k, by omega, rfl⟩⟩
        go_wp2_with fail
        go_quiet (fail)
        go_wp2_with fail
        go_roundw
        case rel => exact ⟨k + 1, D k, by omega, rfl, by go_num, by omega, hk2, hnew.out, _, rfl⟩
        case measure => simp [intOf]; omega
      · have hnew : Hid ((∀ v, v < k + 1 → D v ≤ f) ∧ (f = 0 ∨ ∃ v, v < k + 1 ∧ D v = f)) := ⟨fun v hv => by
          by_cases ev : v = k
          · rw [ev]; omega
          · exact hf.out.1 v (by omega), hf.out.2.elim (fun h => .inl h) (fun ⟨v, h1, h2⟩ => .inr ⟨v, by omega, h2⟩)⟩
        go_wp2_with fail
        go_quiet (fail)
        go_wp2_with fail
        go_roundw
        case rel => exact ⟨k + 1, f, by omega, rfl, by go_num, hf0, hf1, hnew.out, _, rfl⟩
        case measure => simp [intOf]; omega
    · obtain rfl : k = n := by omega
      have hfe : f = e := by
        obtain ⟨v, hv1, hv2⟩ := hat
        have := hf.out.1 v hv1
        omega
      subst hfe
      clear hf hat hmax hcd
      go_wp2_with fail
      go_ret
      exact ⟨rfl, below_drewN hbel _⟩
end Go.Proofs.Qxb6608983a
