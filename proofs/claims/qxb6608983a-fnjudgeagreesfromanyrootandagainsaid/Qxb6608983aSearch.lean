import Derived.Test.Qxb6608983aJState
set_option linter.unusedVariables false
set_option linter.unusedSimpArgs false
namespace Go.Proofs.Qxb6608983a
open Go.ChangeShapes Go.WideShapes Go.ChangeAt Go.RowKit
open G (upd upd_same upd_other)

theorem alive_of {n m : Nat} {A B : Nat → Nat} {F C : Nat → Bool} {DD : Nat → Nat → Int} (hD : G.AllD n m A B (G.usable A B F C) DD) {r p : Nat} (hr : r < n) (hp : p < n) (hF : F r = false) (h0 : 0 ≤ DD r p) : F p = false := by
  by_cases e : p = r
  · subst e; exact hF
  · obtain ⟨i, u, hi, hU, hj, _, _⟩ := (hD r hr).par p hp e h0
    exact ((G.usable_iff hj).1 hU).2.2

/-- searchFrom at a survivor p, and the distances it leaves -/
theorem search_any {w : World} {n m lo hi gf gc Wk gu gs go S T td cl : Nat} {al : Option Addr} {dia : Int} {A B : Nat → Nat} {F C : Nat → Bool} {DD : Nat → Nat → Int} {r E : Nat} (p : Nat) (hn : n ≤ 4096) (hm : m ≤ 4096)
    (hJ : JS w n m lo hi gf gc Wk gu gs go S T td cl al dia F C (portsTo A B m) DD r E) (hA : JAp lo hi gf gc Wk gu gs go S T td) (hD : G.AllD n m A B (G.usable A B F C) DD) (hE : G.Ends n m A B)
    (hp : p < n) (hFp : F p = false) (hEr : ∀ v, v < n → DD r v ≤ E) (hEa : ∃ v, v < n ∧ DD r v = E) :
    Calls Try.prog 49 #[.pointer (some ⟨S, 0, none⟩), .pointer (some ⟨T, 0, none⟩), .int .i64 (-1), .int .i64 p] w fun e w' => ∃ (ec : Int) (fr : Value), e = .returned (.tuple #[.int .i64 ec, fr]) ∧
      (∀ v, v < n → DD p v ≤ ec) ∧ (∃ v, v < n ∧ DD p v = ec) ∧ JS w' n m lo hi gf gc Wk gu gs go S T td cl al dia F C (portsTo A B m) DD r E ∧ Keeps (fun b => Wk ≤ b ∧ b ≤ Wk + 3) w w' ∧
      ∃ dd, dd ≠ gu ∧ IRow w' dd n (DD p) ∧ Calls Try.prog 50 #[.pointer (some ⟨S, 0, none⟩), fr, .int .i64 (-1)] w' fun e w'' => e = .returned (.slice (some ⟨dd, 0, none⟩) n n) ∧ w'' = w' := by
  have hJ' := hJ
  obtain ⟨tcs, lq, Qf, tb, c3, c5, c7, q1, q2, hd, hq, q0⟩ := hJ.tr
  have e0 : w.cell? ⟨td + 2, 0, none⟩ = some (.int .i64 (r : Int)) := by rw [← q0]; exact hq.cell (by omega)
  have hA' := hA
  obtain ⟨a1, a2, a3, a4, a5, a6, a7, a8, a9, a10, a11, a12, a13, a14⟩ := hA
  by_cases hpr : p = r
  · subst hpr
    refine (search_root (.pointer (some ⟨S, 0, none⟩)) T p (td + 2) lq n E w tb c5 c7 q1 e0).mono ?_
    rintro e w1 ⟨rfl, rfl⟩
    exact ⟨E, _, rfl, hEr, hEa, hJ', Keeps.refl _ _, td, by omega, hd, dist_tree (.pointer (some ⟨S, 0, none⟩)) T n td w1 tb c3⟩
  · obtain ⟨wcs, q, ac, wb, hwc, hac⟩ := hJ.wk
    have hpv : ∀ u, u < n → ∀ pr, pr ∈ portsTo A B m u → pr.1 < n ∧ pr.2 < m := fun u hu pr hpr => by
      obtain ⟨h1, h2⟩ := (mem_portsTo A B m u pr.1 pr.2).1 hpr
      exact ⟨(hE.lt h1 h2).2, h1⟩
    have hpl : ∀ u, (portsTo A B m u).length ≤ 8192 := fun u => by have := portsTo_length A B m u; omega
    refine (search_other (R := fun w' f => (∀ v, v < n → DD p v ≤ f) ∧ (∃ v, v < n ∧ DD p v = f) ∧ JS w' n m lo hi gf gc Wk gu gs go S T td cl al dia F C (portsTo A B m) DD r E ∧ Keeps (fun b => Wk ≤ b ∧ b ≤ Wk + 3) w w' ∧
        IRow w' (Wk + 1) n (DD p) ∧ ∃ wcs', Blk w' Wk wcs' 58 ∧ wcs'[3]? = some (.slice (some ⟨Wk + 1, 0, none⟩) n n)) S Wk T r p (td + 2) lq n gu gs go n m cl al dia w hJ.s tb c5 q1 e0 hpr ?_).mono ?_
    · refine (reach_any Wk n m lo hi gf gc (Wk + 1) (Wk + 2) (Wk + 3) q p ac 58 wcs (portsTo A B m) F C w hn hm wb hwc hJ.po hJ.f (fun h => ⟨hac h, hJ.c h⟩) hA'.apart hJ.w1 hJ.w2 hJ.w3 hp hpv hpl).mono ?_
      rintro e w1 ⟨d, Q, rfl, hB, hR⟩
      obtain ⟨hJ1, hw1⟩ := hJ'.reached hA' hwc hac hR
      obtain ⟨hDd, h0, hq0, hlast, hmax⟩ := hB.final (portsOf_portsTo n m A B) hE hp hFp (Nat.le_refl _)
      have heq : ∀ v, v < n → d v = DD p v := fun v hv => hDd.uniq (hD p hp) hE hv
      refine ⟨_, _, rfl, fun v hv => by rw [← heq v hv]; exact hmax v hv, ⟨_, hlast, (heq _ hlast).symm⟩, hJ1, hR.keeps.mono (fun b _ h => by omega), hR.dist.congr heq, hw1⟩
    · rintro e w1 ⟨f, rfl, g1, g2, g3, g4, g5, wcs', g6, g7⟩
      exact ⟨f, _, rfl, g1, g2, g3, g4, Wk + 1, by omega, g5, dist_walk S Wk gu gs go n m cl n (Wk + 1) al dia w1 g3.s g6 g7⟩
end Go.Proofs.Qxb6608983a
