import Derived.Test.Qxb6608983aJudge
import Derived.Test.Qxb6608983aDiam
set_option linter.unusedVariables false
set_option linter.unusedSimpArgs false
namespace Go.Proofs.Qxb6608983a
open Go.ChangeShapes Go.WideShapes Go.ChangeAt Go.RowKit
open G (upd upd_same upd_other)

theorem bytes6_any (a0 a1 a2 a3 : Option Addr) (n0 c0 n1 c1 n2 c2 n3 c3 : Nat) (p q : Int) (w : World) :
    Calls Try.prog 29 #[.slice a0 n0 c0, .slice a1 n1 c1, .slice a2 n2 c2, .slice a3 n3 c3, .int .i64 p, .int .i64 q] w fun e w' => AnyBool e ∧ w' = w := by
  go_enter Try.func29, Try.ntmps29
  go_wp2
  all_goals (go_ret; exact ⟨⟨_, rfl⟩, rfl⟩)

/-- a survey just made -/
def Sv (W5 wx : World) (s : Value) (Wk n m cl : Nat) (al : Option Addr) : Prop :=
  ∃ gu gs go S, s = .pointer (some ⟨S, 0, none⟩) ∧ (W5.heap.size ≤ gu ∧ W5.heap.size ≤ gs ∧ W5.heap.size ≤ go ∧ gu ≠ gs ∧ gu ≠ go ∧ gs ≠ go ∧ gu < S ∧ gs < S ∧ go < S) ∧
    Blk wx S (sur Wk gu gs go n m cl al 0) 68 ∧ IRow wx gu n (fun _ => 0) ∧ IRow wx gs n (fun _ => 0) ∧ IRow wx go (n + 2) (fun _ => 0) ∧ Below W5.heap.size W5 wx

/-- three rows made, one behind the other -/
theorem three_rows (W : World) (k0 k1 k2 : Nat) (o : Obj) :
    let W' := (((W.alloc (.cells (madeCells #[.int .i64 0] k0) 3)).alloc (.cells (madeCells #[.int .i64 0] k1) 3)).alloc (.cells (madeCells #[.int .i64 0] k2) 3)).alloc o
    IRow W' W.heap.size k0 (fun _ => 0) ∧ IRow W' (W.heap.size + 1) k1 (fun _ => 0) ∧ IRow W' (W.heap.size + 2) k2 (fun _ => 0) ∧ Below W.heap.size W W' := by
  intro W'
  have h1 := irow_made W k0
  have h2 := irow_made (W.alloc (.cells (madeCells #[.int .i64 0] k0) 3)) k1
  have h3 := irow_made ((W.alloc (.cells (madeCells #[.int .i64 0] k0) 3)).alloc (.cells (madeCells #[.int .i64 0] k1) 3)) k2
  simp only [World.size_alloc] at h2 h3
  exact ⟨((h1.alloc _).alloc _).alloc _, (h2.alloc _).alloc _, h3.alloc _, ((((Below.refl _ W).alloc (Nat.le_refl _) _).alloc (by simp) _).alloc (by simp; omega) _).alloc (by simp; omega) _⟩

/-! the three rows of a survey, made in whatever order -/
theorem sv0 (W : World) (Wk n m cl : Nat) (al : Option Addr) : Sv W ((((W.alloc (.cells (madeCells #[.int .i64 0] n) 3)).alloc (.cells (madeCells #[.int .i64 0] n) 3)).alloc (.cells (madeCells #[.int .i64 0] (n + 2)) 3)).alloc (.cells (sur Wk W.heap.size (W.heap.size + 1) (W.heap.size + 1 + 1) n m cl al 0) 68)).drew (.pointer (some ⟨W.heap.size + 1 + 1 + 1, 0, none⟩)) Wk n m cl al := by
  obtain ⟨h1, h2, h3, h4⟩ := three_rows W n n (n + 2) (.cells (sur Wk W.heap.size (W.heap.size + 1) (W.heap.size + 1 + 1) n m cl al 0) 68)
  refine ⟨W.heap.size, (W.heap.size + 1), (W.heap.size + 1 + 1), W.heap.size + 1 + 1 + 1, rfl, by omega, ?_, h1, h2, h3, h4.drew⟩
  have h := Blk.new (((W.alloc (.cells (madeCells #[.int .i64 0] n) 3)).alloc (.cells (madeCells #[.int .i64 0] n) 3)).alloc (.cells (madeCells #[.int .i64 0] (n + 2)) 3)) (sur Wk W.heap.size (W.heap.size + 1) (W.heap.size + 1 + 1) n m cl al 0) 68
  simp only [World.size_alloc] at h
  exact h

theorem sv1 (W : World) (Wk n m cl : Nat) (al : Option Addr) : Sv W ((((W.alloc (.cells (madeCells #[.int .i64 0] n) 3)).alloc (.cells (madeCells #[.int .i64 0] (n + 2)) 3)).alloc (.cells (madeCells #[.int .i64 0] n) 3)).alloc (.cells (sur Wk W.heap.size (W.heap.size + 1 + 1) (W.heap.size + 1) n m cl al 0) 68)).drew (.pointer (some ⟨W.heap.size + 1 + 1 + 1, 0, none⟩)) Wk n m cl al := by
  obtain ⟨h1, h2, h3, h4⟩ := three_rows W n (n + 2) n (.cells (sur Wk W.heap.size (W.heap.size + 1 + 1) (W.heap.size + 1) n m cl al 0) 68)
  refine ⟨W.heap.size, (W.heap.size + 1 + 1), (W.heap.size + 1), W.heap.size + 1 + 1 + 1, rfl, by omega, ?_, h1, h3, h2, h4.drew⟩
  have h := Blk.new (((W.alloc (.cells (madeCells #[.int .i64 0] n) 3)).alloc (.cells (madeCells #[.int .i64 0] (n + 2)) 3)).alloc (.cells (madeCells #[.int .i64 0] n) 3)) (sur Wk W.heap.size (W.heap.size + 1 + 1) (W.heap.size + 1) n m cl al 0) 68
  simp only [World.size_alloc] at h
  exact h

theorem sv2 (W : World) (Wk n m cl : Nat) (al : Option Addr) : Sv W ((((W.alloc (.cells (madeCells #[.int .i64 0] n) 3)).alloc (.cells (madeCells #[.int .i64 0] n) 3)).alloc (.cells (madeCells #[.int .i64 0] (n + 2)) 3)).alloc (.cells (sur Wk (W.heap.size + 1) W.heap.size (W.heap.size + 1 + 1) n m cl al 0) 68)).drew (.pointer (some ⟨W.heap.size + 1 + 1 + 1, 0, none⟩)) Wk n m cl al := by
  obtain ⟨h1, h2, h3, h4⟩ := three_rows W n n (n + 2) (.cells (sur Wk (W.heap.size + 1) W.heap.size (W.heap.size + 1 + 1) n m cl al 0) 68)
  refine ⟨(W.heap.size + 1), W.heap.size, (W.heap.size + 1 + 1), W.heap.size + 1 + 1 + 1, rfl, by omega, ?_, h2, h1, h3, h4.drew⟩
  have h := Blk.new (((W.alloc (.cells (madeCells #[.int .i64 0] n) 3)).alloc (.cells (madeCells #[.int .i64 0] n) 3)).alloc (.cells (madeCells #[.int .i64 0] (n + 2)) 3)) (sur Wk (W.heap.size + 1) W.heap.size (W.heap.size + 1 + 1) n m cl al 0) 68
  simp only [World.size_alloc] at h
  exact h

theorem sv3 (W : World) (Wk n m cl : Nat) (al : Option Addr) : Sv W ((((W.alloc (.cells (madeCells #[.int .i64 0] n) 3)).alloc (.cells (madeCells #[.int .i64 0] (n + 2)) 3)).alloc (.cells (madeCells #[.int .i64 0] n) 3)).alloc (.cells (sur Wk (W.heap.size + 1 + 1) W.heap.size (W.heap.size + 1) n m cl al 0) 68)).drew (.pointer (some ⟨W.heap.size + 1 + 1 + 1, 0, none⟩)) Wk n m cl al := by
  obtain ⟨h1, h2, h3, h4⟩ := three_rows W n (n + 2) n (.cells (sur Wk (W.heap.size + 1 + 1) W.heap.size (W.heap.size + 1) n m cl al 0) 68)
  refine ⟨(W.heap.size + 1 + 1), W.heap.size, (W.heap.size + 1), W.heap.size + 1 + 1 + 1, rfl, by omega, ?_, h3, h1, h2, h4.drew⟩
  have h := Blk.new (((W.alloc (.cells (madeCells #[.int .i64 0] n) 3)).alloc (.cells (madeCells #[.int .i64 0] (n + 2)) 3)).alloc (.cells (madeCells #[.int .i64 0] n) 3)) (sur Wk (W.heap.size + 1 + 1) W.heap.size (W.heap.size + 1) n m cl al 0) 68
  simp only [World.size_alloc] at h
  exact h

theorem sv4 (W : World) (Wk n m cl : Nat) (al : Option Addr) : Sv W ((((W.alloc (.cells (madeCells #[.int .i64 0] (n + 2)) 3)).alloc (.cells (madeCells #[.int .i64 0] n) 3)).alloc (.cells (madeCells #[.int .i64 0] n) 3)).alloc (.cells (sur Wk (W.heap.size + 1) (W.heap.size + 1 + 1) W.heap.size n m cl al 0) 68)).drew (.pointer (some ⟨W.heap.size + 1 + 1 + 1, 0, none⟩)) Wk n m cl al := by
  obtain ⟨h1, h2, h3, h4⟩ := three_rows W (n + 2) n n (.cells (sur Wk (W.heap.size + 1) (W.heap.size + 1 + 1) W.heap.size n m cl al 0) 68)
  refine ⟨(W.heap.size + 1), (W.heap.size + 1 + 1), W.heap.size, W.heap.size + 1 + 1 + 1, rfl, by omega, ?_, h2, h3, h1, h4.drew⟩
  have h := Blk.new (((W.alloc (.cells (madeCells #[.int .i64 0] (n + 2)) 3)).alloc (.cells (madeCells #[.int .i64 0] n) 3)).alloc (.cells (madeCells #[.int .i64 0] n) 3)) (sur Wk (W.heap.size + 1) (W.heap.size + 1 + 1) W.heap.size n m cl al 0) 68
  simp only [World.size_alloc] at h
  exact h

theorem sv5 (W : World) (Wk n m cl : Nat) (al : Option Addr) : Sv W ((((W.alloc (.cells (madeCells #[.int .i64 0] (n + 2)) 3)).alloc (.cells (madeCells #[.int .i64 0] n) 3)).alloc (.cells (madeCells #[.int .i64 0] n) 3)).alloc (.cells (sur Wk (W.heap.size + 1 + 1) (W.heap.size + 1) W.heap.size n m cl al 0) 68)).drew (.pointer (some ⟨W.heap.size + 1 + 1 + 1, 0, none⟩)) Wk n m cl al := by
  obtain ⟨h1, h2, h3, h4⟩ := three_rows W (n + 2) n n (.cells (sur Wk (W.heap.size + 1 + 1) (W.heap.size + 1) W.heap.size n m cl al 0) 68)
  refine ⟨(W.heap.size + 1 + 1), (W.heap.size + 1), W.heap.size, W.heap.size + 1 + 1 + 1, rfl, by omega, ?_, h3, h2, h1, h4.drew⟩
  have h := Blk.new (((W.alloc (.cells (madeCells #[.int .i64 0] (n + 2)) 3)).alloc (.cells (madeCells #[.int .i64 0] n) 3)).alloc (.cells (madeCells #[.int .i64 0] n) 3)) (sur Wk (W.heap.size + 1 + 1) (W.heap.size + 1) W.heap.size n m cl al 0) 68
  simp only [World.size_alloc] at h
  exact h

/-- the survey, its walk and its tree, as they stand behind the plant -/
theorem surveyed {W5 W6 W7 W8 : World} {n m lo hi gf gc Wk gu gs go S T td cl : Nat} {al ac : Option Addr} {A B : Nat → Nat} {F C : Nat → Bool} {DD : Nat → Nat → Int} {r : Nat}
    (hD : G.AllD n m A B (G.usable A B F C) DD) (hE : G.Ends n m A B) (hr : r < n) (hFr : F r = false)
    (hPo : PortsAt W5 lo hi n (portsTo A B m)) (hf : BRow W5 gf n F) (hc : 0 < m → BRow W5 gc m C) (hwk : ∃ cs, Blk W5 Wk cs 58 ∧ WalkCells cs n m lo gf ac (Wk + 1) (Wk + 2) (Wk + 3) 0) (hac : 0 < m → ac = some ⟨gc, 0, none⟩)
    (r1 : IRow W5 (Wk + 1) n (fun _ => 0)) (r2 : IRow W5 (Wk + 2) n (fun _ => 0)) (r3 : IRow W5 (Wk + 3) n (fun _ => 0))
    (hs : hi ≤ gf ∧ gf ≤ gc ∧ gc < Wk ∧ Wk + 3 < W5.heap.size)
    (hg : W5.heap.size ≤ gu ∧ W5.heap.size ≤ gs ∧ W5.heap.size ≤ go ∧ gu ≠ gs ∧ gu ≠ go ∧ gs ≠ go ∧ gu < S ∧ gs < S ∧ go < S)
    (hb : Blk W6 S (sur Wk gu gs go n m cl al 0) 68) (u1 : IRow W6 gu n (fun _ => 0)) (u2 : IRow W6 gs n (fun _ => 0)) (u3 : IRow W6 go (n + 2) (fun _ => 0)) (b6 : Below W5.heap.size W5 W6)
    (hT : W6.heap.size ≤ T) (hTd : T < td) (b7 : Below W6.heap.size W6 W7) {d : Nat → Int} {Q : List Nat} {cs' : Array Value}
    (hB : G.BInv n (portsTo A B m) F C r d Q Q.length 0) (t0 : Blk W8 T cs' 78) (t3 : cs'[3]? = some (.slice (some ⟨td, 0, none⟩) n n)) (t5 : cs'[5]? = some (.slice (some ⟨td + 2, 0, none⟩) Q.length n)) (t7 : cs'[7]? = some (.int .i64 (d (Q.getD (Q.length - 1) 0))))
    (hd : IRow W8 td n d) (hq : ∃ qf, IRow W8 (td + 2) n qf ∧ ∀ i, i < Q.length → qf i = (Q.getD i 0 : Nat)) (k8 : Keeps (fun b => b = T ∨ b = td ∨ b = td + 1 ∨ b = td + 2) W7 W8) :
    ∃ E, JAp lo hi gf gc Wk gu gs go S T td ∧ JS W8 n m lo hi gf gc Wk gu gs go S T td cl al 0 F C (portsTo A B m) DD r E ∧ (∀ v, v < n → DD r v ≤ E) ∧ (∃ v, v < n ∧ DD r v = E) := by
  have lS := hb.lt
  obtain ⟨hDd, h0, hq0, hlast, hmax⟩ := hB.final (portsOf_portsTo n m A B) hE hr hFr (Nat.le_refl _)
  have heq : ∀ v, v < n → d v = DD r v := fun v hv => hDd.uniq (hD r hr) hE hv
  have hE0 : 0 ≤ d (Q.getD (Q.length - 1) 0) := by have := hmax r hr; rw [hDd.src0] at this; exact this
  obtain ⟨E, hEe⟩ : ∃ E : Nat, d (Q.getD (Q.length - 1) 0) = (E : Int) := ⟨(d (Q.getD (Q.length - 1) 0)).toNat, by omega⟩
  rw [hEe] at t7 hmax
  obtain ⟨qf, hqr, hqf⟩ := hq
  have hA : JAp lo hi gf gc Wk gu gs go S T td := ⟨by omega, by omega, by omega, by omega, by omega, by omega, by omega, by omega, by omega, by omega, by omega, by omega, by omega, by omega⟩
  have k78 : Keeps (fun b => T ≤ b) W6 W8 := ((Keeps.of_below b7).mono (fun _ _ h => h.elim)).trans k8 (fun b _ h => by omega)
  have k58 : Keeps (fun b => T ≤ b) W5 W8 := ((Keeps.of_below b6).mono (fun _ _ h => h.elim)).trans k78 (fun _ _ h => h)
  obtain ⟨wcs, wb, wc⟩ := hwk
  refine ⟨E, hA, ⟨hb.kept k78 (by omega), ⟨wcs, 0, ac, wb.kept k58 (by omega), wc, hac⟩, hPo.kept k58 (fun b _ _ => by omega), hf.kept k58 (by omega), fun h0 => (hc h0).kept k58 (by omega),
    ⟨_, r1.kept k58 (by omega)⟩, ⟨_, r2.kept k58 (by omega)⟩, ⟨_, r3.kept k58 (by omega)⟩, ⟨_, u1.kept k78 (by omega)⟩, ⟨_, u2.kept k78 (by omega)⟩, ⟨_, u3.kept k78 (by omega)⟩,
    ⟨cs', Q.length, qf, t0, t3, t5, t7, h0, hB.length, hd.congr heq, hqr, by rw [hqf 0 h0, hq0]⟩⟩, fun v hv => by rw [← heq v hv]; exact hmax v hv, ⟨_, hlast, by rw [← heq _ hlast]; exact hEe⟩⟩
set_option maxHeartbeats 1000000 in
/-- zzCloneBools at a slice that is empty: nil, or a new row of none -/
theorem clone_zero (a : Option Addr) (c : Nat) (w : World) :
    Calls Try.prog 13 #[.slice a 0 c] w fun e w' => ∃ ac, e = .returned (.slice ac 0 0) ∧ Below w.heap.size w w' := by
  have q23 : ∀ (w : World) (a : Option Addr) (n c n' c' : Nat), (binOp .eql 23 (.slice a n c) (.slice none n' c')).run Try.prog w = .ok (.bool a.isNone) w := fun w a n c n' c' => Lib.run_eql_slice_nil w _ _ a n c n' c' Try.underlying23
  have hmk := make_bools 0 (by omega)
  simp only [Int.ofNat_eq_natCast, Int.natCast_zero, Int.cast_ofNat_Int] at hmk
  cases a with
  | none =>
    go_enter Try.func13, Try.ntmps13
    go_wp2
    go_ret
    exact ⟨none, rfl, Below.refl _ _⟩
  | some a =>
    go_enter Try.func13, Try.ntmps13
    go_wp2
    go_loopw [4] (fun i wr => i = .int .i64 0 ∧ Below w.heap.size w wr) (fun i _ => 0)
    case atStart => exact ⟨rfl, (Below.refl _ _).alloc (Nat.le_refl _) _⟩
    case round =>
      obtain ⟨rfl, hbel⟩ := hrel
      go_wp2
      go_ret
      exact ⟨_, rfl, hbel⟩

/-- zzCloneBools -/
theorem clone_all (a : Option Addr) (n c : Nat) (f : Nat → Bool) (w : World) (g0 : Nat) (hn : n ≤ 4096) (hg : g0 < w.heap.size) (h : Bools w a n f) :
    Calls Try.prog 13 #[.slice a n c] w fun e w' => ∃ ac gc, e = .returned (.slice ac n n) ∧ (0 < n → ac = some ⟨gc, 0, none⟩ ∧ BRow w' gc n f) ∧ g0 ≤ gc ∧ gc < w'.heap.size ∧ Below w.heap.size w w' := by
  by_cases h0 : n = 0
  · subst h0
    refine (clone_zero a c w).mono ?_
    rintro e w' ⟨ac, rfl, hb⟩
    exact ⟨ac, g0, rfl, fun h => absurd h (Nat.lt_irrefl _), Nat.le_refl _, Nat.lt_of_lt_of_le hg hb.size, hb⟩
  · refine (clone_any a n c f w hn (by omega) h).mono ?_
    rintro e w' ⟨rfl, hr, hb, hs⟩
    exact ⟨_, w.heap.size, rfl, fun _ => ⟨rfl, hr⟩, Nat.le_of_lt hg, by omega, hb⟩

/-- what the plant asks for -/
theorem plant_ready {V0 V1 V2 V3 V4 V5 : World} {n m lo hi gc T td : Nat} {ac : Option Addr} {Ps : Nat → List (Nat × Nat)} {F C : Nat → Bool}
    (hpo : PortsAt V0 lo hi n Ps) (hhi : hi ≤ V0.heap.size) (hf : BRow V1 V0.heap.size n F) (d1 : Below V0.heap.size V0 V1) (s1 : V1.heap.size = V0.heap.size + 1)
    (hcc : 0 < m → ac = some ⟨gc, 0, none⟩ ∧ BRow V2 gc m C) (hg1 : V0.heap.size ≤ gc) (hg2 : gc < V2.heap.size) (d2 : Below V1.heap.size V1 V2)
    (d3 : Below V2.heap.size V2 V3) (s3 : V3.heap.size = V2.heap.size + 4) (d4 : Below V3.heap.size V3 V4) (hT : V4.heap.size ≤ T) (hTd : T < td) (d5 : Below V4.heap.size V4 V5) :
    PortsAt V5 lo hi n Ps ∧ BRow V5 V0.heap.size n F ∧ (0 < m → ac = some ⟨gc, 0, none⟩ ∧ BRow V5 gc m C) ∧ Apart T lo hi V0.heap.size gc td (td + 1) (td + 2) ∧ PortsAt V3 lo hi n Ps ∧ BRow V3 V0.heap.size n F ∧ (0 < m → BRow V3 gc m C) := by
  have k1 := Keeps.of_below d1
  have k2 := Keeps.of_below d2
  have k3 := Keeps.of_below d3
  have k35 := (Keeps.of_below d4).trans (Keeps.of_below d5) (fun _ _ h => h)
  have k25 := k3.trans k35 (fun _ _ h => h)
  have k15 := k2.trans k25 (fun _ _ h => h)
  have k13 := k2.trans k3 (fun _ _ h => h)
  have z2 := d2.size
  have z4 := d4.size
  exact ⟨hpo.kept (k1.trans k15 (fun _ _ h => h)) (fun _ _ _ => id), hf.kept k15 id, fun h => ⟨(hcc h).1, (hcc h).2.kept k25 id⟩, ⟨by omega, by omega, by omega, by omega, by omega, by omega, fun b _ _ => by omega, by omega, by omega⟩,
    hpo.kept (k1.trans k13 (fun _ _ h => h)) (fun _ _ _ => id), hf.kept k13 id, fun h => (hcc h).2.kept k3 id⟩

theorem chain_below {V0 V1 V2 V3 V4 V5 V6 : World} {T td : Nat} (d1 : Below V0.heap.size V0 V1) (d2 : Below V1.heap.size V1 V2) (d3 : Below V2.heap.size V2 V3) (d4 : Below V3.heap.size V3 V4) (hT : V4.heap.size ≤ T) (hTd : T < td) (d5 : Below V4.heap.size V4 V5)
    (k6 : Keeps (fun b => b = T ∨ b = td ∨ b = td + 1 ∨ b = td + 2) V5 V6) : Below V0.heap.size V0 V6 := by
  have k := ((((Keeps.of_below d1).trans (Keeps.of_below d2) (fun _ _ h => h)).trans (Keeps.of_below d3) (fun _ _ h => h)).trans (Keeps.of_below d4) (fun _ _ h => h)).trans (Keeps.of_below d5) (fun _ _ h => h)
  have z1 := d1.size
  have z2 := d2.size
  have z3 := d3.size
  have z4 := d4.size
  exact ((k.mono (fun _ _ h => h.elim)).trans k6 (fun _ _ h => h) : Keeps (fun b => b = T ∨ b = td ∨ b = td + 1 ∨ b = td + 2) V0 V6).below (Nat.le_refl _) (fun i hi => by omega)
/-- two surveys lie apart -/
theorem apart1 {lo hi gf gc Wk gu gs go S T td gf2 : Nat} (hA : JAp lo hi gf gc Wk gu gs go S T td) (h : td + 2 < gf2) : (∀ b, lo ≤ b → b < hi → ¬ (Wk ≤ b ∧ b ≤ S)) ∧ ∀ b, gf2 ≤ b → ¬ (Wk ≤ b ∧ b ≤ S) := by
  obtain ⟨a1, a2, a3, a4, a5, a6, a7, a8, a9, a10, a11, a12, a13, a14⟩ := hA
  exact ⟨fun b _ _ => by omega, fun b _ => by omega⟩
theorem apart2 {lo hi gf gc Wk gu gs go S T td x : Nat} (hA : JAp lo hi gf gc Wk gu gs go S T td) (h : x ≤ gf) : ∀ b, b < x → ¬ (Wk ≤ b ∧ b ≤ S) := by
  obtain ⟨a1, a2, a3, a4, a5, a6, a7, a8, a9, a10, a11, a12, a13, a14⟩ := hA
  exact fun b _ => by omega
end Go.Proofs.Qxb6608983a
