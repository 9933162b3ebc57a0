import Derived.Test.Qxb6608983aPlant
import Derived.Deep.AppendLies
set_option linter.unusedVariables false
set_option linter.unusedSimpArgs false
namespace Go.Proofs.Qxb6608983a
open Go.ChangeShapes Go.WideShapes Go.ChangeAt Go.RowKit
open G (upd upd_same upd_other)

theorem Blk.later {w w' : World} {b : Nat} {cs : Array Value} {t : TypeId} (h : Blk w b cs t) (hb : Below w.heap.size w w') : Blk w' b cs t := (hb.block b h.lt).trans h
theorem owns_later {w w' : World} {base : Nat} {e : TypeId} {s : Nat} {v : Value} {k : Nat} {xs : List Value} (h : w.ownsRow base e s v k xs) (hb : Below w.heap.size w w') : w'.ownsRow base e s v k xs := by
  refine ⟨h.1, ?_⟩
  rcases h.2 with h1 | ⟨g', cp, cur, h1, h2, h3, h4⟩
  · exact .inl h1
  · exact .inr ⟨g', cp, cur, h1, h2, (hb.block g' (Array.getElem?_eq_some_iff.1 h3).1).trans h3, h4⟩
theorem owns_kept {S : Nat → Prop} {w w' : World} {base : Nat} {e : TypeId} {s : Nat} {v : Value} {k : Nat} {xs : List Value} (h : w.ownsRow base e s v k xs) (hb : Keeps S w w') (hS : ∀ b, v.ownBlock = some b → ¬ S b) : w'.ownsRow base e s v k xs := by
  refine ⟨h.1, ?_⟩
  rcases h.2 with h1 | ⟨g', cp, cur, h1, h2, h3, h4⟩
  · exact .inl h1
  · exact .inr ⟨g', cp, cur, h1, h2, (hb.block g' (Array.getElem?_eq_some_iff.1 h3).1 (hS g' (by rw [h1]; rfl))).trans h3, h4⟩
theorem Blk.grown {w w' : World} {b : Nat} {cs : Array Value} {t : TypeId} (h : Blk w b cs t) {row : Option Nat} {o : Obj} (hg : (w.alloc o).grownBy w' row) (hne : some b ≠ row) : Blk w' b cs t :=
  (hg.block b (by simp; exact Nat.lt_succ_of_lt h.lt) hne).trans (h.alloc o)

theorem one_ptr (w : World) (x : Value) : ∀ j u, [x][j]? = some u → (w.alloc (.cells #[x] 39)).cell? ((⟨w.heap.size, 0, none⟩ : Addr).add j) = some u := by
  have hb : (w.alloc (.cells #[x] 39)).heap[w.heap.size]? = some (.cells #[x] 39 (0, 0)) := heap_alloc_new w _
  exact World.news_of_block hb

theorem step_call {ops : Array Oper} {o : Oper} {a : Act} {w : World} {Q : Exit → Act → World → Prop} {K : Act → World → Prop} {E : Prop} (hgd : o.guard = none) (f : FuncId) (args : Array Value) (hrun : (execOp a.eval o).run Try.prog w = .ok (.enter f args) w)
    (hc : Calls Try.prog f args w fun e w' => ∃ v, e = .returned v ∧ K (a.put o.dst v) w') : if Region.wanted o (yielded ops a.tmps) = true then Oper.wp Try.prog o a w K Q else E := by
  have hw : Region.wanted o (yielded ops a.tmps) = true := by simp [Region.wanted, hgd]
  rw [if_pos hw]
  unfold Oper.wp
  rw [hrun, Oper.upon_enter]
  refine hc.mono fun e w'' hh => ?_
  obtain ⟨v, rfl, h⟩ := hh
  exact h

theorem info39 : (Try.prog.info? 39).map (fun i => (i.zero, i.size, i.bytes)) = some (some (.pointer none), 1, 8) := by kernel_rfl

/-- the blocks of a forest and of what it points to lie apart, below 'base' -/
structure FApart (Fo Wk gof gf gc lo hi base : Nat) : Prop where
  fw : Fo ≠ Wk
  fo : Fo ≠ gof
  ff : Fo ≠ gf
  fc : Fo ≠ gc
  wo : Wk ≠ gof
  wc : Wk ≠ gc
  of : gof ≠ gf
  oc : gof ≠ gc
  gg : gf ≠ gc
  pl : ∀ b, lo ≤ b → b < hi → b ≠ Fo ∧ b ≠ gof ∧ b ≠ gc
  lt : Fo < base ∧ Wk < base ∧ gof < base ∧ gf < base ∧ gc < base ∧ lo < base ∧ hi ≤ base

/-- A FOREST IN MEMORY: kt trees kept, of the row 'of' -/
structure FState (w : World) (Fo Wk n m lo hi gf gc gof base : Nat) (most : Int) (al : Option Addr) (cl : Nat) (a : Option Addr) (c kt : Nat) (trees : List Value) (of : Nat → Int) (F C : Nat → Bool) (Ps : Nat → List (Nat × Nat)) : Prop where
  fo : Blk w Fo #[.pointer (some ⟨Wk, 0, none⟩), .slice al m cl, .pointer none, .slice a kt c, .int .i64 kt, .slice (some ⟨gof, 0, none⟩) n n, .int .i64 most] 75
  wk : ∃ cs gd gv gq, Blk w Wk cs 58 ∧ WalkCells cs n m lo gf gc gd gv gq 0
  tr : w.ownsRow base 39 1 (.slice a kt c) kt trees
  po : PortsAt w lo hi n Ps
  f : BRow w gf n F
  c : BRow w gc m C
  of : IRow w gof n of
  base : base ≤ w.heap.size

theorem IRow.grown {w w' : World} {g n : Nat} {d : Nat → Int} (h : IRow w g n d) {row : Option Nat} {o : Obj} (hg : (w.alloc o).grownBy w' row) (hne : some g ≠ row) : IRow w' g n d := by
  obtain ⟨cs, hb, hs, hc⟩ := h
  exact ⟨cs, hb.grown hg hne, hs, hc⟩

/-- A tree has been made and appended: memory behind the fourth region of keep -/
def Mid (W0 : World) (Fo Wk n m lo gf gc gof base kt c cl : Nat) (most : Int) (a al : Option Addr) (trees : List Value) (wx : World) : Prop :=
  ∃ T gd cs g cap, W0.heap.size ≤ T ∧ T < gd ∧ Blk wx T cs 78 ∧ cs.size = 21 ∧ WalkCells cs n m lo gf gc gd (gd + 1) (gd + 2) 0 ∧ cs[14]? = some (.slice none 0 0) ∧
      IRow wx gd n (fun _ => 0) ∧ IRow wx (gd + 1) n (fun _ => 0) ∧ IRow wx (gd + 2) n (fun _ => 0) ∧ ((Value.slice a kt c).ownBlock = some g ∨ gd + 3 < g) ∧
      wx.ownsRow base 39 1 (.slice (some ⟨g, 0, none⟩) (kt + 1) cap) (kt + 1) (trees ++ [.pointer (some ⟨T, 0, none⟩)]) ∧
      Blk wx Fo #[.pointer (some ⟨Wk, 0, none⟩), .slice al m cl, .pointer none, .slice (some ⟨g, 0, none⟩) (kt + 1) cap, .int .i64 kt, .slice (some ⟨gof, 0, none⟩) n n, .int .i64 most] 75 ∧
      Keeps (fun b => b = Fo ∨ (Value.slice a kt c).ownBlock = some b) W0 wx

theorem mid_state {W0 w1 w2 : World} {Fo Wk n m lo gf gc gof base kt c cl T gd g cap : Nat} {most : Int} {a al : Option Addr} {trees : List Value} {cs : Array Value} {o : Obj} (hlt : Fo < base) (hba : base ≤ W0.heap.size)
    (hT : W0.drew.heap.size ≤ T) (hTd : T < gd) (hB : Blk w1 T cs 78) (hsz : cs.size = 21) (hW : WalkCells cs n m lo gf gc gd (gd + 1) (gd + 2) 0) (h14 : cs[14]? = some (.slice none 0 0))
    (r1 : IRow w1 gd n (fun _ => 0)) (r2 : IRow w1 (gd + 1) n (fun _ => 0)) (r3 : IRow w1 (gd + 2) n (fun _ => 0)) (hbel : Below W0.drew.heap.size W0.drew w1) (hsz2 : w1.heap.size = gd + 3)
    (hTr0 : W0.ownsRow base 39 1 (.slice a kt c) kt trees)
    (hown : w2.ownsRow base 39 1 (.slice (some ⟨g, 0, none⟩) (kt + 1) cap) (kt + 1) (trees ++ [.pointer (some ⟨T, 0, none⟩)]))
    (hgrow : (w1.alloc o).grownBy w2 (Value.slice a kt c).ownBlock) (hor : (Value.slice a kt c).ownBlock = some g ∨ g = w1.heap.size + 1)
    (hF2 : Blk w2 Fo #[.pointer (some ⟨Wk, 0, none⟩), .slice al m cl, .pointer none, .slice a kt c, .int .i64 kt, .slice (some ⟨gof, 0, none⟩) n n, .int .i64 most] 75) :
    Mid W0 Fo Wk n m lo gf gc gof base kt c cl most a al trees (w2.setCell ⟨Fo, 3, none⟩ (.slice (some ⟨g, 0, none⟩) (kt + 1) cap)) := by
  have hT' : W0.heap.size ≤ T := hT
  have hr : ∀ b, W0.heap.size ≤ b → some b ≠ (Value.slice a kt c).ownBlock := fun b hb e => by have := (hTr0.lt b e.symm).2; omega
  have hg := (hown.lt g rfl).1
  refine ⟨T, gd, cs, g, cap, hT', hTd, (hB.grown hgrow (hr T hT')).other (a := ⟨Fo, 3, none⟩) (by show T ≠ Fo; omega) _, hsz, hW, h14,
    (r1.grown hgrow (hr _ (by omega))).other (a := ⟨Fo, 3, none⟩) (by show gd ≠ Fo; omega) _, (r2.grown hgrow (hr _ (by omega))).other (a := ⟨Fo, 3, none⟩) (by show gd + 1 ≠ Fo; omega) _,
    (r3.grown hgrow (hr _ (by omega))).other (a := ⟨Fo, 3, none⟩) (by show gd + 2 ≠ Fo; omega) _, hor.elim (fun h => .inl h) (fun h => .inr (by omega)), ?_, hF2.set 3 _, ?_⟩
  · refine ⟨hown.1, ?_⟩
    rcases hown.2 with h1 | ⟨g', cp, cur, h1, h2, h3, h4⟩
    · exact .inl h1
    · exact .inr ⟨g', cp, cur, h1, h2, (Below.heap_setCell w2 _ _ g' (by show g' ≠ Fo; omega)).trans h3, h4⟩
  · have k1 : Keeps (fun b => b = Fo ∨ (Value.slice a kt c).ownBlock = some b) W0.drew w1 := (Keeps.of_below hbel).mono (fun _ _ h => h.elim)
    have k2 := ((k1.alloc o).grown hgrow (fun k hk _ => .inr hk)).setCell (p := ⟨Fo, 3, none⟩) (fun _ => .inl rfl) (.slice (some ⟨g, 0, none⟩) (kt + 1) cap)
    exact ⟨k2.os, k2.tape, k2.output, k2.size, k2.block⟩

set_option maxHeartbeats 1000000 in
/-- keep on a full forest -/
theorem keep_full (Fo Wk n m lo hi gf gc gof base kt c cl p l : Nat) (a al : Option Addr) (trees : List Value) (of : Nat → Int) (F C : Nat → Bool) (Ps : Nat → List (Nat × Nat)) (w : World)
    (hS : FState w Fo Wk n m lo hi gf gc gof base kt al cl a c kt trees of F C Ps) :
    Calls Try.prog 46 #[.pointer (some ⟨Fo, 0, none⟩), .int .i64 p, .int .i64 l] w fun e w' => e = .returned (.pointer none) ∧ ∃ k, w' = w.drewN k := by
  have f4 := hS.fo.cell (i := 4) rfl
  have f6 := hS.fo.cell (i := 6) rfl
  go_enter Try.func46, Try.ntmps46
  go_upto_region 1 with fail
  go_quiet (fail)
  go_wp2_with fail
  go_ret
  exact ⟨rfl, _, rfl⟩

set_option maxHeartbeats 4000000 in
set_option maxRecDepth 100000 in
/-- keep on a forest with room -/
theorem keep_any (Fo Wk n m lo hi_ gf gc gof base kt c cl p l : Nat) (most : Int) (a al : Option Addr) (trees : List Value) (of : Nat → Int) (F C : Nat → Bool) (Ps : Nat → List (Nat × Nat)) (w : World) (hn : n ≤ 4096) (hm : m ≤ 4096) (hkt : kt ≤ 4096)
    (hA : FApart Fo Wk gof gf gc lo hi_ base) (hS : FState w Fo Wk n m lo hi_ gf gc gof base most al cl a c kt trees of F C Ps) (hmost : (kt : Int) ≠ most) (hp : p < n) (hl : l < m) (hcl : C l = true)
    (hpv : ∀ u, u < n → ∀ pr, pr ∈ Ps u → pr.1 < n ∧ pr.2 < m) (hpl : ∀ u, (Ps u).length ≤ 8192) :
    Calls Try.prog 46 #[.pointer (some ⟨Fo, 0, none⟩), .int .i64 p, .int .i64 l] w fun e w' => ∃ T gd gq d Q cs' g cap trees', e = .returned (.pointer (some ⟨T, 0, none⟩)) ∧ w.heap.size ≤ T ∧ w.heap.size ≤ gd ∧ w.heap.size ≤ gq ∧
      G.BInv n Ps F (updB C l false) p d Q Q.length 0 ∧ Blk w' T cs' 78 ∧ cs'.size = 21 ∧
      cs'[3]? = some (.slice (some ⟨gd, 0, none⟩) n n) ∧ cs'[5]? = some (.slice (some ⟨gq, 0, none⟩) Q.length n) ∧ cs'[7]? = some (.int .i64 (d (Q.getD (Q.length - 1) 0))) ∧
      IRow w' gd n d ∧ (∃ qf, IRow w' gq n qf ∧ ∀ i, i < Q.length → qf i = (Q.getD i 0 : Nat)) ∧ T ≠ g ∧ gd ≠ g ∧ gq ≠ g ∧
      FState w' Fo Wk n m lo hi_ gf gc gof base most al cl (some ⟨g, 0, none⟩) cap (kt + 1) trees' (upd of p kt) F C Ps ∧
      Keeps (fun b => b = Fo ∨ b = gof ∨ b = gc ∨ (Value.slice a kt c).ownBlock = some b) w w' := by
  obtain ⟨hFo, ⟨wcs, wd, wv, wq, hWk, hWc⟩, hTr, hPo, hF, hC, hOf, hba⟩ := hS
  obtain ⟨i0, hi, hz0, hz1, hz2⟩ := info_parts info39
  have f0 := hFo.cell (i := 0) rfl
  have f1 := hFo.cell (i := 1) rfl
  have f3 := hFo.cell (i := 3) rfl
  have f4 := hFo.cell (i := 4) rfl
  have f6 := hFo.cell (i := 6) rfl
  have k0 := hWk.cell hWc.c0
  have k1 := hWk.cell hWc.c1
  have k2 := hWk.cell hWc.c2
  have hlt := hA.lt
  have hg1 : decide ((kt : Int) = most) = false := by simp [hmost]
  go_enter Try.func46, Try.ntmps46
  go_upto_region 1 with fail
  go_quiet (fail)
  go_upto_region 3 with fail
  go_quiet (fail)
  go_upto_if 26 with fail
  generalize hW0 : World.drewN (World.drewN w _) _ = W0
  have hk0 : Hid (Keeps (fun _ => False) w W0 ∧ W0.heap.size = w.heap.size) := by subst hW0; exact ⟨((Keeps.refl _ w).drewN _).drewN _, rfl⟩
  have hFo0 := hFo.kept hk0.out.1 id
  have hWk0 := hWk.kept hk0.out.1 id
  have hTr0 : W0.ownsRow base 39 1 (.slice a kt c) kt trees := owns_kept hTr hk0.out.1 (fun _ _ => id)
  have hPo0 := hPo.kept hk0.out.1 (fun _ _ _ => id)
  have hF0 := hF.kept hk0.out.1 id
  have hC0 := hC.kept hk0.out.1 id
  have hOf0 := hOf.kept hk0.out.1 id
  have hba0 : base ≤ W0.heap.size := by rw [hk0.out.2]; exact hba
  clear hFo hWk hTr hPo hF hC hOf hba f0 f1 f3 f4 f6 k0 k1 k2 hW0
  have f0 := hFo0.cell (i := 0) rfl
  have f1 := hFo0.cell (i := 1) rfl
  have f3 := hFo0.cell (i := 3) rfl
  have k0 := hWk0.cell hWc.c0
  have k1 := hWk0.cell hWc.c1
  have k2 := hWk0.cell hWc.c2
  have hne : some Fo ≠ (Value.slice a kt c).ownBlock := fun e => by have := (hTr0.lt Fo e.symm).1; omega
  go_cut [6] (fun s wx => s = .pointer none ∧ Mid W0 Fo Wk n m lo gf gc gof base kt c cl most a al trees wx)
  case first =>
    have hFoD : Blk W0.drew Fo #[.pointer (some ⟨Wk, 0, none⟩), .slice al m cl, .pointer none, .slice a kt c, .int .i64 kt, .slice (some ⟨gof, 0, none⟩) n n, .int .i64 most] 75 := hFo0
    have hTrD : W0.drew.ownsRow base 39 1 (.slice a kt c) kt trees := hTr0
    have hmx : kt + 1 ≤ maxLen := by unfold maxLen; omega
    have hby : (kt + 1) * 8 ≤ 140737488355328 := by omega
    have hbaD : base ≤ W0.drew.heap.size := hba0
    go_upto_region 4 with fail
    go_region_law
      (first
        | (refine step_call rfl 43 #[.pointer (some ⟨Wk, 0, none⟩), .slice al m cl] (by go_simp) ?_
           refine (tree_any Wk n m lo gf gc cl al W0.drew hn hm k0 k1 k2).mono ?_
           rintro e w1 ⟨T, gd, cs, rfl, hT, hTd, hB, hsz, hW, h14, r1, r2, r3, hbel, hsz2⟩
           have hF1 : Blk w1 Fo _ 75 := hFoD.later hbel
           have hT1 : w1.ownsRow base 39 1 (.slice a kt c) kt trees := owns_later hTrD hbel
           have q0 := hF1.cell (i := 0) rfl
           have q1 := hF1.cell (i := 1) rfl
           have q3 := hF1.cell (i := 3) rfl
           have lF1 := hF1.lt
           have hone : ∀ u ∈ [Value.pointer (some ⟨T, 0, none⟩)], u.oneCell' = true := fun u hu => by rw [List.mem_singleton.1 hu]; rfl
           have hszB : base ≤ w1.heap.size + 1 := Nat.le_succ_of_le (Nat.le_trans hbaD hbel.size)
           replace hsz2 : Hid (w1.heap.size = gd + 3) := hsz2
           refine ⟨_, rfl, ?_⟩)
        | (refine step_append_lies _ rfl (.tmp 31) (.tmp 41) 64 rfl base 39 i0 (.pointer none) 1 8 Try.underlying64 hi hz0 hz1 hz2 rfl (by decide) (.slice a kt c) kt trees rfl (hT1.alloc _) ⟨w1.heap.size, 0, none⟩ 1 1 [.pointer (some ⟨T, 0, none⟩)] rfl rfl (one_ptr w1 _) hone (by decide) hmx hby (Nat.le_trans hszB (Nat.le_of_eq (World.size_alloc _ _).symm)) (w1.heap.size + 1) (World.size_alloc _ _) ?_
           intro g cap w2 hown hgrow hor hglt
           have hF2 : Blk w2 Fo _ 75 := hF1.grown hgrow hne
           have q0' := hF2.cell (i := 0) rfl
           have q1' := hF2.cell (i := 1) rfl
           have q3' := hF2.cell (i := 3) rfl
           have q3f := hF2.free 3))
    all_goals go_wp2
    all_goals go_meet
    all_goals exact ⟨rfl, mid_state hlt.1 hba0 hT hTd hB hsz hW h14 r1 r2 r3 hbel hsz2.out hTr0 hown hgrow hor hF2⟩
  case rest =>
    obtain ⟨rfl, T, gd, cs, g, cap, hT, hTd, hB, hsz, hW, h14, r1, r2, r3, hor, hown, hFo1, hK1⟩ := hcut
    have hrow : ∀ b, b < base → ¬ ((Value.slice a kt c).ownBlock = some b) := fun b hb e => by have := (hTr0.lt b e).1; omega
    have hWk1 := hWk0.kept hK1 (fun h => h.elim (Ne.symm hA.fw) (hrow _ hlt.2.1))
    have hPo1 := hPo0.kept hK1 (fun b h1 h2 h => h.elim (hA.pl b h1 h2).1 (hrow b (by omega)))
    have hF1 := hF0.kept hK1 (fun h => h.elim (Ne.symm hA.ff) (hrow _ (by omega)))
    have hC1 := hC0.kept hK1 (fun h => h.elim (Ne.symm hA.fc) (hrow _ (by omega)))
    have hOf1 := hOf0.kept hK1 (fun h => h.elim (Ne.symm hA.fo) (hrow _ (by omega)))
    have hgT : g ≠ T ∧ g ≠ gd ∧ g ≠ gd + 1 ∧ g ≠ gd + 2 := by
      rcases hor with h | h
      · have := (hTr0.lt g h).2; omega
      · omega
    have hgb : base ≤ g := (hown.lt g rfl).1
    have htl : trees.length = kt := by have := hTr0.1; omega
    have ct : wc.cell? ⟨g, kt, none⟩ = some (.pointer (some ⟨T, 0, none⟩)) := by
      rw [hown.cellAt kt (by omega), List.getElem?_append_right (by omega), htl, Nat.sub_self]; rfl
    have hKa : Hid (Keeps (fun b => b = Fo ∨ b = gof ∨ b = gc ∨ (Value.slice a kt c).ownBlock = some b) w wc) := ((hk0.out.1.mono (fun _ _ h => h.elim)).trans hK1 (fun _ _ h => h.elim .inl (fun h => .inr (.inr (.inr h)))))
    have hbas : base ≤ wc.heap.size := Nat.le_trans hba0 hK1.size
    have hwT : Hid (w.heap.size ≤ T) := by rw [← hk0.out.2]; exact hT
    clear f0 f1 f3 k0 k1 k2 hFo0 hWk0 hPo0 hF0 hC0 hOf0 hK1 hne
    have f3 := hFo1.cell (i := 3) rfl
    have f4 := hFo1.cell (i := 4) rfl
    have f5 := hFo1.cell (i := 5) rfl
    have hki : (kt : Int) < ((kt + 1 : Nat) : Int) := by omega
    have hki' : (kt : Int) < (kt : Int) + 1 := by omega
    go_upto_region 5 with fail
    go_region_held3 (fun w' => w'.cell? ⟨Fo, 3, none⟩ = some (.slice (some ⟨g, 0, none⟩) (kt + 1) cap) ∧ w'.cell? ⟨Fo, 4, none⟩ = some (.int .i64 kt) ∧ w'.cell? ⟨g, kt, none⟩ = some (.pointer (some ⟨T, 0, none⟩))) (go_keep) (fail)
    have o1 := hOf1.cell hp
    have o2 := hOf1.free p
    have hpi : (p : Int) < (n : Int) := by omega
    have nFo : Fo ≠ gof := hA.fo
    have noF : gof ≠ Fo := Ne.symm hA.fo
    go_upto_region 6 with fail
    go_region_held3 (fun w' => w'.cell? ⟨Fo, 5, none⟩ = some (.slice (some ⟨gof, 0, none⟩) n n) ∧ w'.cell? ⟨Fo, 4, none⟩ = some (.int .i64 kt)) (go_keep) (fail)
    have kB : Keeps (fun b => b = Fo ∨ b = gof ∨ b = gc) wc (wc.setCell ⟨gof, p, none⟩ (.int .i64 kt)).drew.drew := (((Keeps.refl (fun b => b = Fo ∨ b = gof ∨ b = gc) wc).setCell (p := ⟨gof, p, none⟩) (fun _ => .inr (.inl rfl)) _).drewN 1).drewN 1
    have hFo2 : Blk (wc.setCell ⟨gof, p, none⟩ (.int .i64 kt)).drew.drew Fo _ 75 := hFo1.other (a := ⟨gof, p, none⟩) nFo _
    have hC2 : BRow (wc.setCell ⟨gof, p, none⟩ (.int .i64 kt)).drew.drew gc m C := hC1.other (a := ⟨gof, p, none⟩) (Ne.symm hA.oc) _
    have hOf2 : IRow (wc.setCell ⟨gof, p, none⟩ (.int .i64 kt)).drew.drew gof n (upd of p kt) := hOf1.set hp kt
    clear hFo1 hC1 hOf1 f3 f4 f5 ct o1 o2
    generalize (wc.setCell ⟨gof, p, none⟩ (.int .i64 kt)).drew.drew = W2 at *
    have hWk2 := hWk1.kept kB (by rintro (h | h | h); exact hA.fw h.symm; exact hA.wo h; exact hA.wc h)
    have f0 := hFo2.cell (i := 0) rfl
    have f4 := hFo2.cell (i := 4) rfl
    have f4f := hFo2.free 4
    have k2 := hWk2.cell hWc.c2
    have c1 := hC2.cell hl
    have c2 := hC2.free l
    have nFW : Fo ≠ Wk := hA.fw
    have nWF : Wk ≠ Fo := Ne.symm hA.fw
    have nFc : Fo ≠ gc := hA.fc
    have ncF : gc ≠ Fo := Ne.symm hA.fc
    have nWc : Wk ≠ gc := hA.wc
    have ncW : gc ≠ Wk := Ne.symm hA.wc
    have hli : (l : Int) < (m : Int) := by omega
    have hwr : IntKind.i64.wrap ((kt : Int) + 1) = (kt : Int) + 1 := wrap_small _ (by omega) (by omega)
    go_upto_region 9 with fail
    have kC : Keeps (fun b => b = Fo ∨ b = gof ∨ b = gc) wc ((W2.setCell ⟨Fo, 4, none⟩ (.int .i64 ((kt : Int) + 1))).setCell ⟨gc, l, none⟩ (.bool false)) := (kB.setCell (p := ⟨Fo, 4, none⟩) (fun _ => .inl rfl) _).setCell (p := ⟨gc, l, none⟩) (fun _ => .inr (.inr rfl)) _
    have hFo3 : Blk ((W2.setCell ⟨Fo, 4, none⟩ (.int .i64 ((kt : Int) + 1))).setCell ⟨gc, l, none⟩ (.bool false)) Fo #[.pointer (some ⟨Wk, 0, none⟩), .slice al m cl, .pointer none, .slice (some ⟨g, 0, none⟩) (kt + 1) cap, .int .i64 ((kt : Int) + 1), .slice (some ⟨gof, 0, none⟩) n n, .int .i64 most] 75 := (hFo2.set 4 _).other (a := ⟨gc, l, none⟩) nFc _
    have hC3 : BRow ((W2.setCell ⟨Fo, 4, none⟩ (.int .i64 ((kt : Int) + 1))).setCell ⟨gc, l, none⟩ (.bool false)) gc m (updB C l false) := (hC2.other (a := ⟨Fo, 4, none⟩) ncF _).set hl false
    have hOf3 : IRow ((W2.setCell ⟨Fo, 4, none⟩ (.int .i64 ((kt : Int) + 1))).setCell ⟨gc, l, none⟩ (.bool false)) gof n (upd of p kt) := (hOf2.other (a := ⟨Fo, 4, none⟩) (Ne.symm hA.fo) _).other (a := ⟨gc, l, none⟩) hA.oc _
    clear hFo2 hC2 hOf2 f0 f4 f4f k2 c1 c2 kB hWk2
    generalize (W2.setCell ⟨Fo, 4, none⟩ (.int .i64 ((kt : Int) + 1))).setCell ⟨gc, l, none⟩ (.bool false) = W3 at *
    have hlow : ∀ b, base ≤ b → ¬ (b = Fo ∨ b = gof ∨ b = gc) := fun b hb h => by omega
    have hB3 := hB.kept kC (hlow T (by omega))
    have q1 := r1.kept kC (hlow _ (by omega))
    have q2 := r2.kept kC (hlow _ (by omega))
    have q3 := r3.kept kC (hlow _ (by omega))
    have hWk3 := hWk1.kept kC (by rintro (h | h | h); exact hA.fw h.symm; exact hA.wo h; exact hA.wc h)
    have hPo3 := hPo1.kept kC (fun b h1 h2 h => by have := hA.pl b h1 h2; omega)
    have hF3 := hF1.kept kC (by rintro (h | h | h); exact hA.ff h.symm; exact hA.of h.symm; exact hA.gg h)
    have hown3 := owns_kept hown kC (fun b hb h => by have := (hown.lt b hb).1; omega)
    have hKb : Hid (Keeps (fun b => b = Fo ∨ b = gof ∨ b = gc ∨ (Value.slice a kt c).ownBlock = some b) w W3) := hKa.out.trans kC (fun _ _ h => by rcases h with h | h | h; exact .inl h; exact .inr (.inl h); exact .inr (.inr (.inl h)))
    have hAp : Apart T lo hi_ gf gc gd (gd + 1) (gd + 2) := ⟨by omega, by omega, by omega, by omega, by omega, by omega, fun b h1 h2 h => by omega, by omega, by omega⟩
    go_wp2_with fail
    refine (plant_any T n m lo hi_ gf gc gd (gd + 1) (gd + 2) 0 p 78 cs Ps F (updB C l false) W3 hn hm hB3 hsz h14 hW hPo3 hF3 hC3 hAp ⟨_, q1⟩ ⟨_, q2⟩ ⟨_, q3⟩ hp hpv hpl).mono ?_
    rintro e w4 ⟨rfl, d, Q, cs', hI, hB4, hsz4, e3, e5, e7, hd4, hq4, hK4⟩
    have hhi : ∀ b, b < base → ¬ (b = T ∨ b = gd ∨ b = gd + 1 ∨ b = gd + 2) := fun b hb h => by omega
    have hFo4 := hFo3.kept hK4 (hhi _ hlt.1)
    have hWk4 := hWk3.kept hK4 (hhi _ hlt.2.1)
    have hPo4 := hPo3.kept hK4 (fun b h1 h2 => hhi b (by omega))
    have hF4 := hF3.kept hK4 (hhi _ (by omega))
    have hC4 := hC3.kept hK4 (hhi _ (by omega))
    have hOf4 := hOf3.kept hK4 (hhi _ (by omega))
    have hown4 := owns_kept hown3 hK4 (fun b hb h => by
      have e : g = b := by simpa [Value.ownBlock] using hb
      subst e
      omega)
    have hKc : Hid (Keeps (fun b => b = Fo ∨ b = gof ∨ b = gc ∨ (Value.slice a kt c).ownBlock = some b) w (w4.setCell ⟨gc, l, none⟩ (.bool true))) :=
      (hKb.out.trans hK4 (fun b hb h => by have := hwT.out; omega)).setCell (p := ⟨gc, l, none⟩) (fun _ => .inr (.inr (.inl rfl))) _
    have hbas4 : base ≤ w4.heap.size := Nat.le_trans (Nat.le_trans hbas kC.size) hK4.size
    have hI' : Hid (G.BInv n Ps F (updB C l false) p d Q Q.length 0) := hI
    obtain ⟨qf, hq1, hq2⟩ := hq4
    have hq2' : Hid (∀ i, i < Q.length → qf i = (Q.getD i 0 : Nat)) := hq2
    have e7' : Hid (cs'[7]? = some (.int .i64 (d (Q.getD (Q.length - 1) 0)))) := e7
    have e5' : Hid (cs'[5]? = some (.slice (some ⟨gd + 2, 0, none⟩) Q.length n)) := e5
    have e3' : Hid (cs'[3]? = some (.slice (some ⟨gd, 0, none⟩) n n)) := e3
    clear hFo3 hWk3 hPo3 hF3 hC3 hOf3 hown3 hKb kC hI hq2 e7 e5 e3 q1 q2 q3 hB3 hB r1 r2 r3 hWk1 hPo1 hF1 hown hKa hK4
    have f0 := hFo4.cell (i := 0) rfl
    have k2 := hWk4.cell hWc.c2
    have c1 := hC4.cell hl
    have c2 := hC4.free l
    go_wp2_with fail
    go_ret
    have nb : ∀ b, base ≤ b → b ≠ gc := fun b hb h => by omega
    refine ⟨T, gd, gd + 2, d, Q, cs', g, cap, trees ++ [.pointer (some ⟨T, 0, none⟩)], rfl, hwT.out, by have := hwT.out; omega, by have := hwT.out; omega, hI'.out, hB4.other (a := ⟨gc, l, none⟩) (nb _ (by omega)) _, hsz4, e3'.out, e5'.out, e7'.out,
      hd4.other (a := ⟨gc, l, none⟩) (nb _ (by omega)) _, ⟨qf, hq1.other (a := ⟨gc, l, none⟩) (nb _ (by omega)) _, hq2'.out⟩, Ne.symm hgT.1, Ne.symm hgT.2.1, Ne.symm hgT.2.2.2, ?_, hKc.out⟩
    have hkS : Keeps (fun b => b = gc) w4 (w4.setCell ⟨gc, l, none⟩ (.bool true)) := (Keeps.refl (fun b => b = gc) w4).setCell (p := ⟨gc, l, none⟩) (fun _ => rfl) _
    refine ⟨hFo4.kept hkS hA.fc, ⟨wcs, wd, wv, wq, hWk4.kept hkS hA.wc, hWc⟩, owns_kept hown4 hkS (fun b hb h => by
      have e : g = b := by simpa [Value.ownBlock] using hb
      subst e
      omega), hPo4.kept hkS (fun b h1 h2 h => (hA.pl b h1 h2).2.2 h), hF4.kept hkS hA.gg, ((hC4.set hl true).congr (fun i hi => ?_)), hOf4.kept hkS hA.oc, Nat.le_trans hbas4 hkS.size⟩
    by_cases e : i = l
    · subst e; rw [updB_same, hcl]
    · rw [updB_other _ _ _ e, updB_other _ _ _ e]
end Go.Proofs.Qxb6608983a
