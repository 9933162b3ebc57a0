import Derived.Test.Qxb6608983aSur
import Derived.Test.Qxb6608983aPairs
set_option linter.unusedVariables false
set_option linter.unusedSimpArgs false
namespace Go.Proofs.Qxb6608983a
open Go.ChangeShapes Go.WideShapes Go.ChangeAt Go.RowKit
open G (upd upd_same upd_other)

/-- how the blocks of a survey, its walk and its tree lie -/
structure JAp (lo hi gf gc Wk gu gs go S T td : Nat) : Prop where
  hf : hi ≤ gf
  fc : gf ≤ gc
  cw : gc < Wk
  wu : Wk + 3 < gu
  ws : Wk + 3 < gs
  wo : Wk + 3 < go
  us : gu ≠ gs
  uo : gu ≠ go
  so : gs ≠ go
  uS : gu < S
  sS : gs < S
  oS : go < S
  ST : S < T
  Td : T < td

/-- the tree that the survey is judged by -/
def JTree (w : World) (n T td : Nat) (DD : Nat → Nat → Int) (r E : Nat) : Prop :=
  ∃ tcs lq Qf, Blk w T tcs 78 ∧ tcs[3]? = some (.slice (some ⟨td, 0, none⟩) n n) ∧ tcs[5]? = some (.slice (some ⟨td + 2, 0, none⟩) lq n) ∧ tcs[7]? = some (.int .i64 (E : Int)) ∧ 1 ≤ lq ∧ lq ≤ n ∧
    IRow w td n (DD r) ∧ IRow w (td + 2) n Qf ∧ Qf 0 = r

/-- A SURVEY IN MEMORY, with its walk and a tree planted at r -/
structure JS (w : World) (n m lo hi gf gc Wk gu gs go S T td cl : Nat) (al : Option Addr) (dia : Int) (F C : Nat → Bool) (Ps : Nat → List (Nat × Nat)) (DD : Nat → Nat → Int) (r E : Nat) : Prop where
  s : Blk w S (sur Wk gu gs go n m cl al dia) 68
  wk : ∃ wcs q ac, Blk w Wk wcs 58 ∧ WalkCells wcs n m lo gf ac (Wk + 1) (Wk + 2) (Wk + 3) q ∧ (0 < m → ac = some ⟨gc, 0, none⟩)
  po : PortsAt w lo hi n Ps
  f : BRow w gf n F
  c : 0 < m → BRow w gc m C
  w1 : ∃ f, IRow w (Wk + 1) n f
  w2 : ∃ f, IRow w (Wk + 2) n f
  w3 : ∃ f, IRow w (Wk + 3) n f
  up : ∃ f, IRow w gu n f
  fa : ∃ f, IRow w gs n f
  or_ : ∃ f, IRow w go (n + 2) f
  tr : JTree w n T td DD r E

theorem JTree.kept {X : Nat → Prop} {w w' : World} {n T td : Nat} {DD : Nat → Nat → Int} {r E : Nat} (h : JTree w n T td DD r E) (hk : Keeps X w w') (h1 : ¬ X T) (h2 : ¬ X td) (h3 : ¬ X (td + 2)) : JTree w' n T td DD r E := by
  obtain ⟨tcs, lq, Qf, hb, c3, c5, c7, q1, q2, hd, hq, q0⟩ := h
  exact ⟨tcs, lq, Qf, hb.kept hk h1, c3, c5, c7, q1, q2, hd.kept hk h2, hq.kept hk h3, q0⟩

theorem ex_kept {X : Nat → Prop} {w w' : World} {g n : Nat} (h : ∃ f, IRow w g n f) (hk : Keeps X w w') (hg : ¬ X g) : ∃ f, IRow w' g n f := by
  obtain ⟨f, h⟩ := h
  exact ⟨f, h.kept hk hg⟩

section
variable {w w' : World} {n m lo hi gf gc Wk gu gs go S T td cl : Nat} {al : Option Addr} {dia : Int} {F C : Nat → Bool} {Ps : Nat → List (Nat × Nat)} {DD : Nat → Nat → Int} {r E : Nat} {X : Nat → Prop}

theorem JS.kept (h : JS w n m lo hi gf gc Wk gu gs go S T td cl al dia F C Ps DD r E) (hA : JAp lo hi gf gc Wk gu gs go S T td) (hk : Keeps X w w') (hp : ∀ b, lo ≤ b → b < hi → ¬ X b) (hX : ∀ b, gf ≤ b → b ≤ td + 2 → ¬ X b) :
    JS w' n m lo hi gf gc Wk gu gs go S T td cl al dia F C Ps DD r E := by
  obtain ⟨a1, a2, a3, a4, a5, a6, a7, a8, a9, a10, a11, a12, a13, a14⟩ := hA
  obtain ⟨wcs, q, ac, hb, hw, hac⟩ := h.wk
  exact ⟨h.s.kept hk (hX _ (by omega) (by omega)), ⟨wcs, q, ac, hb.kept hk (hX _ (by omega) (by omega)), hw, hac⟩, h.po.kept hk hp, h.f.kept hk (hX _ (by omega) (by omega)), fun h0 => (h.c h0).kept hk (hX _ (by omega) (by omega)),
    ex_kept h.w1 hk (hX _ (by omega) (by omega)), ex_kept h.w2 hk (hX _ (by omega) (by omega)), ex_kept h.w3 hk (hX _ (by omega) (by omega)), ex_kept h.up hk (hX _ (by omega) (by omega)), ex_kept h.fa hk (hX _ (by omega) (by omega)), ex_kept h.or_ hk (hX _ (by omega) (by omega)),
    h.tr.kept hk (hX _ (by omega) (by omega)) (hX _ (by omega) (by omega)) (hX _ (by omega) (by omega))⟩

theorem JS.setUp (h : JS w n m lo hi gf gc Wk gu gs go S T td cl al dia F C Ps DD r E) (hA : JAp lo hi gf gc Wk gu gs go S T td) (hk : Keeps (fun b => b = gu) w w') (hu : ∃ f, IRow w' gu n f) :
    JS w' n m lo hi gf gc Wk gu gs go S T td cl al dia F C Ps DD r E := by
  obtain ⟨a1, a2, a3, a4, a5, a6, a7, a8, a9, a10, a11, a12, a13, a14⟩ := hA
  obtain ⟨wcs, q, ac, hb, hw, hac⟩ := h.wk
  exact ⟨h.s.kept hk (by omega), ⟨wcs, q, ac, hb.kept hk (by omega), hw, hac⟩, h.po.kept hk (fun b _ _ => by omega), h.f.kept hk (by omega), fun h0 => (h.c h0).kept hk (by omega),
    ex_kept h.w1 hk (by omega), ex_kept h.w2 hk (by omega), ex_kept h.w3 hk (by omega), hu, ex_kept h.fa hk (by omega), ex_kept h.or_ hk (by omega),
    h.tr.kept hk (by omega) (by omega) (by omega)⟩

theorem JS.setFar (h : JS w n m lo hi gf gc Wk gu gs go S T td cl al dia F C Ps DD r E) (hA : JAp lo hi gf gc Wk gu gs go S T td) (hk : Keeps (fun b => b = gs ∨ b = go) w w') (h1 : ∃ f, IRow w' gs n f) (h2 : ∃ f, IRow w' go (n + 2) f) :
    JS w' n m lo hi gf gc Wk gu gs go S T td cl al dia F C Ps DD r E := by
  obtain ⟨a1, a2, a3, a4, a5, a6, a7, a8, a9, a10, a11, a12, a13, a14⟩ := hA
  obtain ⟨wcs, q, ac, hb, hw, hac⟩ := h.wk
  exact ⟨h.s.kept hk (by omega), ⟨wcs, q, ac, hb.kept hk (by omega), hw, hac⟩, h.po.kept hk (fun b _ _ => by omega), h.f.kept hk (by omega), fun h0 => (h.c h0).kept hk (by omega),
    ex_kept h.w1 hk (by omega), ex_kept h.w2 hk (by omega), ex_kept h.w3 hk (by omega), ex_kept h.up hk (by omega), h1, h2,
    h.tr.kept hk (by omega) (by omega) (by omega)⟩

theorem JS.setDia (h : JS w n m lo hi gf gc Wk gu gs go S T td cl al dia F C Ps DD r E) (hA : JAp lo hi gf gc Wk gu gs go S T td) (x : Int) :
    JS (w.setCell ⟨S, 16, none⟩ (.int .i64 x)) n m lo hi gf gc Wk gu gs go S T td cl al x F C Ps DD r E := by
  obtain ⟨a1, a2, a3, a4, a5, a6, a7, a8, a9, a10, a11, a12, a13, a14⟩ := hA
  obtain ⟨wcs, q, ac, hb, hw, hac⟩ := h.wk
  have hk : Keeps (fun b => b = S) w (w.setCell ⟨S, 16, none⟩ (.int .i64 x)) := (Keeps.refl (fun b => b = S) w).setCell (p := ⟨S, 16, none⟩) (fun _ => rfl) _
  exact ⟨h.s.set 16 (.int .i64 x), ⟨wcs, q, ac, hb.kept hk (by omega), hw, hac⟩, h.po.kept hk (fun b _ _ => by omega), h.f.kept hk (by omega), fun h0 => (h.c h0).kept hk (by omega),
    ex_kept h.w1 hk (by omega), ex_kept h.w2 hk (by omega), ex_kept h.w3 hk (by omega), ex_kept h.up hk (by omega), ex_kept h.fa hk (by omega), ex_kept h.or_ hk (by omega),
    h.tr.kept hk (by omega) (by omega) (by omega)⟩

theorem JAp.apart (hA : JAp lo hi gf gc Wk gu gs go S T td) : Apart Wk lo hi gf gc (Wk + 1) (Wk + 2) (Wk + 3) := by
  obtain ⟨a1, a2, a3, a4, a5, a6, a7, a8, a9, a10, a11, a12, a13, a14⟩ := hA
  exact ⟨by omega, by omega, by omega, by omega, by omega, by omega, fun b _ _ => by omega, by omega, by omega⟩

/-- the walk has searched -/
theorem JS.reached (h : JS w n m lo hi gf gc Wk gu gs go S T td cl al dia F C Ps DD r E) (hA : JAp lo hi gf gc Wk gu gs go S T td) {wcs : Array Value} {q : Nat} {ac : Option Addr} {d : Nat → Int} {Q : List Nat} (hw : WalkCells wcs n m lo gf ac (Wk + 1) (Wk + 2) (Wk + 3) q) (hac : 0 < m → ac = some ⟨gc, 0, none⟩)
    (hR : RState w Wk 58 wcs n (Wk + 1) (Wk + 2) (Wk + 3) w' d Q) : JS w' n m lo hi gf gc Wk gu gs go S T td cl al dia F C Ps DD r E ∧ ∃ wcs', Blk w' Wk wcs' 58 ∧ wcs'[3]? = some (.slice (some ⟨Wk + 1, 0, none⟩) n n) := by
  have hk := hR.keeps
  obtain ⟨a1, a2, a3, a4, a5, a6, a7, a8, a9, a10, a11, a12, a13, a14⟩ := hA
  have hw' : WalkCells (wcs.setIfInBounds 5 (.slice (some ⟨Wk + 3, 0, none⟩) Q.length n)) n m lo gf ac (Wk + 1) (Wk + 2) (Wk + 3) Q.length :=
    ⟨by simp; exact hw.size, by rw [Array.getElem?_setIfInBounds_ne (by decide)]; exact hw.c0, by rw [Array.getElem?_setIfInBounds_ne (by decide)]; exact hw.c1, by rw [Array.getElem?_setIfInBounds_ne (by decide)]; exact hw.c2,
      by rw [Array.getElem?_setIfInBounds_ne (by decide)]; exact hw.c3, by rw [Array.getElem?_setIfInBounds_ne (by decide)]; exact hw.c4, by rw [Array.getElem?_setIfInBounds_self_of_lt (by have := hw.size; omega)]⟩
  obtain ⟨qf, hq, _⟩ := hR.que
  exact ⟨⟨h.s.kept hk (by omega), ⟨_, _, ac, hR.blk, hw', hac⟩, h.po.kept hk (fun b _ _ => by omega), h.f.kept hk (by omega), fun h0 => (h.c h0).kept hk (by omega),
    ⟨d, hR.dist⟩, hR.via, ⟨qf, hq⟩, ex_kept h.up hk (by omega), ex_kept h.fa hk (by omega), ex_kept h.or_ hk (by omega),
    h.tr.kept hk (by omega) (by omega) (by omega)⟩, _, hR.blk, hw'.c3⟩
end

/-! what judge reckons -/
section
variable {n m : Nat} {A B : Nat → Nat} {U : Nat → Bool} {DD : Nat → Nat → Int}

theorem upper_ok (hD : G.AllD n m A B U DD) (hE : G.Ends n m A B) {p q v : Nat} {e : Int} (hp : p < n) (hq : q < n) (hv : v < n) (h0 : 0 ≤ DD p q) (he : ∀ v, v < n → DD p v ≤ e) : DD q v ≤ e + DD p q := by
  have e0 := he p hp
  rw [(hD p hp).src0] at e0
  by_cases c : 0 ≤ DD q v
  · have s := hD.symm hE hp hq h0
    have t := hD.tri hE hp hq hv h0 c
    have t2 := hD.tri hE hq hp hv (by omega) t.1
    have := he v hv
    omega
  · omega

/-- up bounds the eccentricity of each of r's component -/
def UpOK (n : Nat) (DD : Nat → Nat → Int) (r : Nat) (up : Nat → Int) : Prop := ∀ q, q < n → 0 ≤ DD r q → ∀ v, v < n → DD q v ≤ up q
/-- all of p's distances are at most W -/
def Ok (n : Nat) (DD : Nat → Nat → Int) (W : Int) (p : Nat) : Prop := ∀ v, v < n → DD p v ≤ W

theorem UpOK.set (hD : G.AllD n m A B U DD) (hE : G.Ends n m A B) {r p q : Nat} {e : Int} {up : Nat → Int} (h : UpOK n DD r up) (hp : p < n) (hq : q < n) (h0 : 0 ≤ DD p q) (he : ∀ v, v < n → DD p v ≤ e) {x : Int} (hx : x = up q ∨ x = e + DD p q) : UpOK n DD r (upd up q x) := by
  intro y hy h1 v hv
  by_cases c : y = q
  · subst c
    rw [upd_same]
    rcases hx with rfl | rfl
    · exact h y hy h1 v hv
    · exact upper_ok hD hE hp hy hv h0 he
  · rw [upd_other _ _ _ c]; exact h y hy h1 v hv
end
end Go.Proofs.Qxb6608983a
