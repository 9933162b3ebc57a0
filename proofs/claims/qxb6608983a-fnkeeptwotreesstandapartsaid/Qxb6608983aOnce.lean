import Derived.Test.Qxb6608983aSetup
set_option linter.unusedVariables false
set_option linter.unusedSimpArgs false
namespace Go.Proofs.Qxb6608983a
open Go.ChangeShapes Go.WideShapes Go.ChangeAt Go.RowKit
open G (upd upd_same upd_other)

/-- a planted tree in memory: what zzTreeHolds asks of it -/
def TreeAt (w : World) (T gd gq n m : Nat) (A B : Nat → Nat) (F C : Nat → Bool) (l p : Nat) : Prop :=
  ∃ cs D Qf lq e, Blk w T cs 78 ∧ cs[3]? = some (.slice (some ⟨gd, 0, none⟩) n n) ∧ cs[5]? = some (.slice (some ⟨gq, 0, none⟩) lq n) ∧ cs[7]? = some (.int .i64 e) ∧
    IRow w gd n D ∧ IRow w gq n Qf ∧ 1 ≤ lq ∧ lq ≤ n ∧ Qf 0 = p ∧ (∀ v, v < n → D v ≤ e) ∧ (∃ v, v < n ∧ D v = e) ∧ G.IsDist n m A B (usableX A B F C l) p D

theorem TreeAt.kept {S : Nat → Prop} {w w' : World} {T gd gq n m : Nat} {A B : Nat → Nat} {F C : Nat → Bool} {l p : Nat} (h : TreeAt w T gd gq n m A B F C l p) (hk : Keeps S w w') (h1 : ¬ S T) (h2 : ¬ S gd) (h3 : ¬ S gq) :
    TreeAt w' T gd gq n m A B F C l p := by
  obtain ⟨cs, D, Qf, lq, e, hb, c3, c5, c7, hd, hq, r⟩ := h
  exact ⟨cs, D, Qf, lq, e, hb.kept hk h1, c3, c5, c7, hd.kept hk h2, hq.kept hk h3, r⟩

theorem TreeAt.lt {w : World} {T gd gq n m : Nat} {A B : Nat → Nat} {F C : Nat → Bool} {l p : Nat} (h : TreeAt w T gd gq n m A B F C l p) : T < w.heap.size ∧ gd < w.heap.size ∧ gq < w.heap.size := by
  obtain ⟨cs, D, Qf, lq, e, hb, c3, c5, c7, hd, hq, r⟩ := h
  exact ⟨hb.lt, hd.lt, hq.lt⟩

theorem IRow.part {w : World} {g n k : Nat} {d : Nat → Int} (h : IRow w g n d) (hk : k ≤ n) : Ints w (some ⟨g, 0, none⟩) k d := .inr ⟨g, 0, rfl, fun i hi => by rw [Nat.zero_add]; exact h.cell (by omega)⟩

/-- what keep gives -/
def Kept1 (w w' : World) (v : Option Addr) (Fo Wk n m lo hi gf gc gof base kt c cl p l : Nat) (most : Int) (a al : Option Addr) (of : Nat → Int) (A B : Nat → Nat) (F C : Nat → Bool) : Prop :=
  ∃ T gd gq g cap trees', v = some ⟨T, 0, none⟩ ∧ w.heap.size ≤ T ∧ w.heap.size ≤ gd ∧ w.heap.size ≤ gq ∧ T ≠ g ∧ gd ≠ g ∧ gq ≠ g ∧ TreeAt w' T gd gq n m A B F C l p ∧
    FState w' Fo Wk n m lo hi gf gc gof base most al cl (some ⟨g, 0, none⟩) cap (kt + 1) trees' (upd of p kt) F C (portsTo A B m) ∧
    Keeps (fun b => b = Fo ∨ b = gof ∨ b = gc ∨ (Value.slice a kt c).ownBlock = some b) w w'

theorem keep_once (Fo Wk n m lo hi gf gc gof base kt c cl p l : Nat) (most : Int) (a al : Option Addr) (trees : List Value) (of : Nat → Int) (A B : Nat → Nat) (F C : Nat → Bool) (w : World) (hn : n ≤ 4096) (hm : m ≤ 4096) (hkt : kt ≤ 4096)
    (hA : FApart Fo Wk gof gf gc lo hi base) (hS : FState w Fo Wk n m lo hi gf gc gof base most al cl a c kt trees of F C (portsTo A B m)) (hE : G.Ends n m A B) (hp : p < n) (hl : l < m) (hcl : C l = true) (hFp : F p = false) :
    Calls Try.prog 33 #[.pointer (some ⟨Fo, 0, none⟩), .int .i64 p, .int .i64 l] w fun e w' => ∃ v, e = .returned (.pointer v) ∧
      ((most = kt ∧ v = none ∧ ∃ k, w' = w.drewN k) ∨ (most ≠ kt ∧ Kept1 w w' v Fo Wk n m lo hi gf gc gof base kt c cl p l most a al of A B F C)) := by
  by_cases hmost : (kt : Int) = most
  · subst hmost
    refine ZZkeep_any Fo p l w ((keep_full Fo Wk n m lo hi gf gc gof base kt c cl p l a al trees of F C (portsTo A B m) w hS).mono ?_)
    rintro e w8 ⟨rfl, hk⟩
    exact ⟨_, rfl, none, rfl, .inl ⟨rfl, rfl, hk⟩⟩
  · have hpv : ∀ u, u < n → ∀ pr, pr ∈ portsTo A B m u → pr.1 < n ∧ pr.2 < m := fun u hu pr hpr => by
      obtain ⟨h1, h2⟩ := (mem_portsTo A B m u pr.1 pr.2).1 hpr
      exact ⟨(hE.lt h1 h2).2, h1⟩
    have hpl : ∀ u, (portsTo A B m u).length ≤ 8192 := fun u => by have := portsTo_length A B m u; omega
    refine ZZkeep_any Fo p l w ((keep_any Fo Wk n m lo hi gf gc gof base kt c cl p l most a al trees of F C (portsTo A B m) w hn hm hkt hA hS hmost hp hl hcl hpv hpl).mono ?_)
    rintro e w8 ⟨T, gd, gq, d, Q, cs', g, cap, trees', rfl, hT, hgd, hgq, hB, hbl, hsz, c3, c5, c7, hd, ⟨qf, hq, hqf⟩, n1, n2, n3, hF, hK⟩
    refine ⟨_, rfl, _, rfl, .inr ⟨fun e => hmost e.symm, T, gd, gq, g, cap, trees', rfl, hT, hgd, hgq, n1, n2, n3, ?_, hF, hK⟩⟩
    obtain ⟨hD, h0, hq0, hlast, hmax⟩ := hB.final (portsOf_portsTo n m A B) hE hp hFp (Nat.le_refl _)
    have hu : usableX A B F C l = G.usable A B F (updB C l false) := funext fun i => usableX_restored A B F C l i
    exact ⟨cs', d, qf, Q.length, _, hbl, c3, c5, c7, hd, hq, h0, hB.length, by rw [hqf 0 h0, hq0], hmax, ⟨_, hlast, rfl⟩, by rw [hu]; exact hD⟩

/-- behind the one keep of law 7 -/
structure After7 (w w' : World) (v : Option Addr) (Fo n m gf gc gof gb p l : Nat) (most : Int) (A B : Nat → Nat) (F C : Nat → Bool) (kt : Nat) (ofn : Nat → Int) : Prop where
  fo : ∃ cs, Blk w' Fo cs 75 ∧ cs[4]? = some (.int .i64 kt)
  f : BRow w' gf n F
  c : BRow w' gc m C
  of : IRow w' gof n ofn
  ofis : ∀ x, x < n → ofn x = if 1 ≤ most ∧ x = p then 0 else -1
  below : Below gb w w'
  tree : (most = 0 ∧ v = none ∧ kt = 0) ∨ (1 ≤ most ∧ kt = 1 ∧ ∃ T gd gq, v = some ⟨T, 0, none⟩ ∧ TreeAt w' T gd gq n m A B F C l p)

theorem keep7 (Fo Wk n m lo hi gf gc gof base cl p l gb : Nat) (most : Int) (al : Option Addr) (A B : Nat → Nat) (F C : Nat → Bool) (w : World) (hn : n ≤ 4096) (hm : m ≤ 4096)
    (hA : FApart Fo Wk gof gf gc lo hi base) (hS : FState w Fo Wk n m lo hi gf gc gof base most al cl none 0 0 [] (fun _ => -1) F C (portsTo A B m)) (hE : G.Ends n m A B) (hp : p < n) (hl : l < m) (hcl : C l = true) (hFp : F p = false) (hmost : 0 ≤ most)
    (hgb : gb ≤ Fo ∧ gb ≤ gof ∧ gb ≤ gc) (hgb2 : gb ≤ w.heap.size) :
    Calls Try.prog 33 #[.pointer (some ⟨Fo, 0, none⟩), .int .i64 p, .int .i64 l] w fun e w' => ∃ v, e = .returned (.pointer v) ∧ ∃ kt ofn, After7 w w' v Fo n m gf gc gof gb p l most A B F C kt ofn := by
  refine (keep_once Fo Wk n m lo hi gf gc gof base 0 0 cl p l most none al [] _ A B F C w hn hm (by omega) hA hS hE hp hl hcl hFp).mono ?_
  rintro e w' ⟨v, rfl, h⟩
  refine ⟨v, rfl, ?_⟩
  rcases h with ⟨rfl, rfl, k, rfl⟩ | ⟨hne, T, gd, gq, g, cap, trees', rfl, hT, hgd, hgq, n1, n2, n3, hTr, hF, hK⟩
  · refine ⟨0, _, ⟨_, hS.fo.drewN k, rfl⟩, hS.f.drewN k, hS.c.drewN k, hS.of.drewN k, fun x _ => by rw [if_neg (by omega)], ((Keeps.refl (fun _ => False) w).drewN k).below hgb2 (fun _ _ => id), .inl ⟨rfl, rfl, rfl⟩⟩
  · have h1 : 1 ≤ most := by omega
    refine ⟨1, _, ⟨_, hF.fo, rfl⟩, hF.f, hF.c, hF.of, fun x _ => ?_, hK.below hgb2 ?_, .inr ⟨h1, rfl, T, gd, gq, rfl, hTr⟩⟩
    · by_cases e : x = p
      · subst e; rw [upd_same, if_pos ⟨h1, rfl⟩]; rfl
      · rw [upd_other _ _ _ e, if_neg (fun h => e h.2)]
    · rintro i hi (h | h | h | h)
      · omega
      · omega
      · omega
      · cases h

/-- behind the first keep of law 8 -/
def Mid8 (w w' : World) (v : Option Addr) (Fo Wk n m lo hi gf gc gof base cl gb p l : Nat) (most : Int) (al : Option Addr) (A B : Nat → Nat) (F C : Nat → Bool) : Prop :=
  (most = 0 ∧ v = none ∧ ∃ k, w' = w.drewN k) ∨
  (1 ≤ most ∧ ∃ T gd gq g cap trees', v = some ⟨T, 0, none⟩ ∧ base ≤ T ∧ base ≤ gd ∧ base ≤ gq ∧ base ≤ g ∧ T ≠ g ∧ gd ≠ g ∧ gq ≠ g ∧ TreeAt w' T gd gq n m A B F C l p ∧
    FState w' Fo Wk n m lo hi gf gc gof base most al cl (some ⟨g, 0, none⟩) cap 1 trees' (upd (fun _ => -1) p 0) F C (portsTo A B m) ∧ Below gb w w')

theorem keep8a (Fo Wk n m lo hi gf gc gof base cl p l gb : Nat) (most : Int) (al : Option Addr) (A B : Nat → Nat) (F C : Nat → Bool) (w : World) (hn : n ≤ 4096) (hm : m ≤ 4096)
    (hA : FApart Fo Wk gof gf gc lo hi base) (hS : FState w Fo Wk n m lo hi gf gc gof base most al cl none 0 0 [] (fun _ => -1) F C (portsTo A B m)) (hE : G.Ends n m A B) (hp : p < n) (hl : l < m) (hcl : C l = true) (hFp : F p = false) (hmost : 0 ≤ most)
    (hgb : gb ≤ Fo ∧ gb ≤ gof ∧ gb ≤ gc) (hgb2 : gb ≤ w.heap.size) :
    Calls Try.prog 33 #[.pointer (some ⟨Fo, 0, none⟩), .int .i64 p, .int .i64 l] w fun e w' => ∃ v, e = .returned (.pointer v) ∧ Mid8 w w' v Fo Wk n m lo hi gf gc gof base cl gb p l most al A B F C := by
  refine (keep_once Fo Wk n m lo hi gf gc gof base 0 0 cl p l most none al [] _ A B F C w hn hm (by omega) hA hS hE hp hl hcl hFp).mono ?_
  rintro e w' ⟨v, rfl, h⟩
  refine ⟨v, rfl, ?_⟩
  rcases h with ⟨rfl, rfl, hk⟩ | ⟨hne, T, gd, gq, g, cap, trees', rfl, hT, hgd, hgq, n1, n2, n3, hTr, hF, hK⟩
  · exact .inl ⟨rfl, rfl, hk⟩
  · have hb := hS.base
    refine .inr ⟨by omega, T, gd, gq, g, cap, trees', rfl, by omega, by omega, by omega, (hF.tr.lt g rfl).1, n1, n2, n3, hTr, hF, hK.below hgb2 ?_⟩
    rintro i hi (h | h | h | h)
    · omega
    · omega
    · omega
    · cases h

/-- behind both keeps of law 8 -/
structure After8 (w w' : World) (v1 v2 : Option Addr) (Fo n m gf gc gof gb p q l : Nat) (most : Int) (A B : Nat → Nat) (F C : Nat → Bool) (kt : Nat) (ofn : Nat → Int) : Prop where
  fo : ∃ cs, Blk w' Fo cs 75 ∧ cs[4]? = some (.int .i64 kt)
  f : BRow w' gf n F
  c : BRow w' gc m C
  of : IRow w' gof n ofn
  ofis : ∀ x, x < n → ofn x = if 2 ≤ most ∧ x = q then 1 else if 1 ≤ most ∧ x = p then 0 else -1
  below : Below gb w w'
  tree : (most = 0 ∧ v1 = none ∧ v2 = none ∧ kt = 0) ∨ (most = 1 ∧ kt = 1 ∧ v2 = none ∧ ∃ T gd gq, v1 = some ⟨T, 0, none⟩ ∧ TreeAt w' T gd gq n m A B F C l p) ∨
    (2 ≤ most ∧ kt = 2 ∧ ∃ T gd gq T2 gd2 gq2, T2 ≠ T ∧ v1 = some ⟨T, 0, none⟩ ∧ TreeAt w' T gd gq n m A B F C l p ∧ v2 = some ⟨T2, 0, none⟩ ∧ TreeAt w' T2 gd2 gq2 n m A B F C l q)

theorem keep8b (Fo Wk n m lo hi gf gc gof base cl p q l gb : Nat) (most : Int) (v1 al : Option Addr) (A B : Nat → Nat) (F C : Nat → Bool) (w0 w : World) (hn : n ≤ 4096) (hm : m ≤ 4096)
    (hA : FApart Fo Wk gof gf gc lo hi base) (hS : FState w0 Fo Wk n m lo hi gf gc gof base most al cl none 0 0 [] (fun _ => -1) F C (portsTo A B m)) (hE : G.Ends n m A B) (hq : q < n) (hl : l < m) (hcl : C l = true) (hFq : F q = false) (hmost : 0 ≤ most)
    (hgb : gb ≤ Fo ∧ gb ≤ gof ∧ gb ≤ gc) (hgb2 : gb ≤ w0.heap.size) (h8 : Mid8 w0 w v1 Fo Wk n m lo hi gf gc gof base cl gb p l most al A B F C) :
    Calls Try.prog 33 #[.pointer (some ⟨Fo, 0, none⟩), .int .i64 q, .int .i64 l] w fun e w' => ∃ v2, e = .returned (.pointer v2) ∧ ∃ kt ofn, After8 w0 w' v1 v2 Fo n m gf gc gof gb p q l most A B F C kt ofn := by
  have hbk : ∀ k, Below gb w0 (w0.drewN k) := fun k => ((Keeps.refl (fun _ => False) w0).drewN k).below hgb2 (fun _ _ => id)
  rcases h8 with ⟨rfl, rfl, k, rfl⟩ | ⟨h1, T, gd, gq, g, cap, trees', rfl, b1, b2, b3, b4, n1, n2, n3, hTr, hF, hB⟩
  · have hS' : FState (w0.drewN k) Fo Wk n m lo hi gf gc gof base 0 al cl none 0 0 [] (fun _ => -1) F C (portsTo A B m) := ⟨hS.fo, hS.wk, hS.tr, hS.po, hS.f, hS.c, hS.of, hS.base⟩
    refine (keep_once Fo Wk n m lo hi gf gc gof base 0 0 cl q l 0 none al [] _ A B F C _ hn hm (by omega) hA hS' hE hq hl hcl hFq).mono ?_
    rintro e w' ⟨v, rfl, h⟩
    refine ⟨v, rfl, ?_⟩
    rcases h with ⟨_, rfl, k2, rfl⟩ | ⟨hne, _⟩
    · obtain ⟨k3, e3⟩ := drews w0 k k2
      rw [e3]
      exact ⟨0, _, ⟨_, hS.fo.drewN k3, rfl⟩, hS.f.drewN k3, hS.c.drewN k3, hS.of.drewN k3, fun x _ => by rw [if_neg (by omega), if_neg (by omega)], hbk k3, .inl ⟨rfl, rfl, rfl, rfl⟩⟩
    · exact absurd rfl hne
  · refine (keep_once Fo Wk n m lo hi gf gc gof base 1 cap cl q l most _ al trees' _ A B F C _ hn hm (by omega) hA hF hE hq hl hcl hFq).mono ?_
    rintro e w' ⟨v, rfl, h⟩
    refine ⟨v, rfl, ?_⟩
    rcases h with ⟨hm1, rfl, k, rfl⟩ | ⟨hne, T2, gd2, gq2, g2, cap2, trees2, rfl, hT, hgd, hgq, n4, n5, n6, hTr2, hF2, hK⟩
    · have hk1 : Keeps (fun _ => False) w (w.drewN k) := (Keeps.refl _ _).drewN k
      refine ⟨1, _, ⟨_, hF.fo.drewN k, rfl⟩, hF.f.drewN k, hF.c.drewN k, hF.of.drewN k, fun x _ => ?_, hB.trans (hk1.below (Nat.le_trans hgb2 hB.size) (fun _ _ => id)), .inr (.inl ⟨hm1, rfl, rfl, T, gd, gq, rfl, hTr.kept hk1 id id id⟩)⟩
      rw [if_neg (by omega)]
      by_cases e : x = p
      · subst e; rw [upd_same, if_pos ⟨h1, rfl⟩]
      · rw [upd_other _ _ _ e, if_neg (fun h => e h.2)]
    · have hlt := hTr.lt
      have hap := hA.lt
      refine ⟨2, _, ⟨_, hF2.fo, rfl⟩, hF2.f, hF2.c, hF2.of, fun x _ => ?_, hB.trans (hK.below (Nat.le_trans hgb2 hB.size) ?_), .inr (.inr ⟨by omega, rfl, T, gd, gq, T2, gd2, gq2, by omega, rfl, hTr.kept hK ?_ ?_ ?_, rfl, hTr2⟩)⟩
      · by_cases e : x = q
        · subst e; rw [upd_same, if_pos ⟨by omega, rfl⟩]; rfl
        · rw [upd_other _ _ _ e, if_neg (fun h => e h.2)]
          by_cases e : x = p
          · subst e; rw [upd_same, if_pos ⟨h1, rfl⟩]
          · rw [upd_other _ _ _ e, if_neg (fun h => e h.2)]
      · rintro i hi (h | h | h | h)
        · omega
        · omega
        · omega
        · have : g = i := Option.some.inj h
          omega
      · rintro (h | h | h | h)
        · omega
        · omega
        · omega
        · exact n1 (Option.some.inj h).symm
      · rintro (h | h | h | h)
        · omega
        · omega
        · omega
        · exact n2 (Option.some.inj h).symm
      · rintro (h | h | h | h)
        · omega
        · omega
        · omega
        · exact n3 (Option.some.inj h).symm
end Go.Proofs.Qxb6608983a
