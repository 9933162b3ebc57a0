import Derived.Test.Qxb6608983aState6
import Derived.Deep.DeepCutAuto
set_option linter.unusedVariables false
set_option linter.unusedSimpArgs false
namespace Go.Proofs.Qxb6608983a
open Go.ChangeShapes Go.WideShapes Go.ChangeAt Go.RowKit
open G (upd upd_same upd_other)

/-- append(q, v) into a row with room -/
theorem append_cell (W : World) (gq k n : Nat) (v : Int) (hk : k < n) (hlt : gq < W.heap.size) (hc : ∃ u, W.cell? ⟨gq, k, none⟩ = some u) (hf : W.frozen? ⟨gq, k, none⟩ = false) (ty : TypeId) :
    (Builtin.append_ #[22, 22] ty #[.slice (some ⟨gq, 0, none⟩) k n, .slice (some ⟨W.heap.size, 0, none⟩) 1 1]).run Try.prog (W.alloc (.cells #[.int .i64 v] 3)) = .ok (.slice (some ⟨gq, 0, none⟩) (k + 1) n) ((W.alloc (.cells #[.int .i64 v] 3)).setCell ⟨gq, k, none⟩ (.int .i64 v)) := by
  obtain ⟨i, hi, hz, hs, hb⟩ := info_parts info3
  obtain ⟨u, hu⟩ := hc
  have h := run_append_room_cells (P := Try.prog) (W.alloc (.cells #[.int .i64 v] 3)) 22 ty 3 i Try.underlying22 hi gq 0 k n ⟨W.heap.size, 0, none⟩ 1 1 [.int .i64 v] (by rw [hs]; rfl) (cell_one_new _ _ _) (by intro u hu; simp at hu; subst hu; rfl) (by omega)
    (fun j hj => by
      have : j = 0 := by simpa using hj
      subst this
      rw [hs, World.cell?_alloc_past _ _ _ hlt]
      simp [hu])
    (fun j hj => by
      have : j = 0 := by simpa using hj
      subst this
      rw [hs, World.frozen?_alloc_past _ _ _ hlt]
      simp [hf])
  rw [hs] at h
  simpa [World.setCells] using h

theorem append_cell' (W : World) (gq k n : Nat) (v : Int) (hk : k < n) (hlt : gq < W.heap.size) (hc : ∃ u, W.cell? ⟨gq, k, none⟩ = some u) (hf : W.frozen? ⟨gq, k, none⟩ = false) (ty : TypeId) :
    (Builtin.append_ #[22, 22] ty #[.slice (some ⟨gq, 0, none⟩) k n, .slice (some ⟨W.heap.size, 0, none⟩) 1 1]).run Try.prog (W.alloc (.cells #[.int .i64 v] 3)) = .ok (.slice (some ⟨gq, 0, none⟩) (k + 1) n) ((W.setCell ⟨gq, k, none⟩ (.int .i64 v)).alloc (.cells #[.int .i64 v] 3)) := by
  rw [append_cell W gq k n v hk hlt hc hf ty, World.setCell_alloc_past _ _ _ _ hlt]

theorem wpList_append_cell {ops : Array Oper} {rest : List Oper} {o : Oper} {a : Act} {Q : Exit → Act → World → Prop} (hgd : o.guard = none) (s x : Operand) (ho : o.op = .call { callee := .builtin .append, args := #[s, x], argTypes := #[22, 22] })
    (W : World) (gq k n : Nat) (v : Int) (hs : a.eval s = .slice (some ⟨gq, 0, none⟩) k n) (hx : a.eval x = .slice (some ⟨W.heap.size, 0, none⟩) 1 1) (hk : k < n) (hlt : gq < W.heap.size) (hc : ∃ u, W.cell? ⟨gq, k, none⟩ = some u) (hf : W.frozen? ⟨gq, k, none⟩ = false)
    (h : wpList Try.prog ops Q rest (a.put o.dst (.slice (some ⟨gq, 0, none⟩) (k + 1) n)) ((W.setCell ⟨gq, k, none⟩ (.int .i64 v)).alloc (.cells #[.int .i64 v] 3))) : wpList Try.prog ops Q (o :: rest) a (W.alloc (.cells #[.int .i64 v] 3)) := by
  refine wpList_plain hgd fun K hK => ?_
  have hr := append_cell' W gq k n v hk hlt hc hf o.type
  unfold Oper.wp execOp
  simp only [ho, resolve, invoke, builtin, Sem.run_bind, Sem.run_pure, Result.andThen_ok, List.map_toArray, List.map_cons, List.map_nil, hs, hx, hr]
  exact hK _ _ h

theorem step_append_cell {ops : Array Oper} {o : Oper} {a : Act} {Q : Exit → Act → World → Prop} {K : Act → World → Prop} {E : Prop} (hgd : o.guard = none) (s x : Operand) (ho : o.op = .call { callee := .builtin .append, args := #[s, x], argTypes := #[22, 22] })
    (W : World) (gq k n : Nat) (v : Int) (nd : Nat) (hs : a.eval s = .slice (some ⟨gq, 0, none⟩) k n) (hx : a.eval x = .slice (some ⟨W.heap.size, 0, none⟩) 1 1) (hk : k < n) (hlt : gq < W.heap.size) (hc : ∃ u, W.cell? ⟨gq, k, none⟩ = some u) (hf : W.frozen? ⟨gq, k, none⟩ = false)
    (h : K (a.put o.dst (.slice (some ⟨gq, 0, none⟩) (k + 1) n)) (((W.setCell ⟨gq, k, none⟩ (.int .i64 v)).alloc (.cells #[.int .i64 v] 3)).drewN nd)) :
    if Region.wanted o (yielded ops a.tmps) = true then Oper.wp Try.prog o a ((W.alloc (.cells #[.int .i64 v] 3)).drewN nd) K Q else E := by
  have hw : Region.wanted o (yielded ops a.tmps) = true := by simp [Region.wanted, hgd]
  rw [if_pos hw]
  have hr : (Builtin.append_ #[22, 22] o.type #[.slice (some ⟨gq, 0, none⟩) k n, .slice (some ⟨W.heap.size, 0, none⟩) 1 1]).run Try.prog ((W.alloc (.cells #[.int .i64 v] 3)).drewN nd) = .ok (.slice (some ⟨gq, 0, none⟩) (k + 1) n) (((W.setCell ⟨gq, k, none⟩ (.int .i64 v)).alloc (.cells #[.int .i64 v] 3)).drewN nd) := append_cell' (W.drewN nd) gq k n v hk hlt hc hf o.type
  unfold Oper.wp execOp
  simp only [ho, resolve, invoke, builtin, Sem.run_bind, Sem.run_pure, Result.andThen_ok, List.map_toArray, List.map_cons, List.map_nil, hs, hx, hr]
  exact h

/-- the row of ports at p, in every world that keeps the ports' blocks -/
theorem PortsAt.rowAll {w : World} {lo hi n : Nat} {Ps : Nat → List (Nat × Nat)} (h : PortsAt w lo hi n Ps) {p : Nat} (hp : p < n) : ∃ a c, (Ps p = [] ∨ ∃ g, a = some ⟨g, 0, none⟩) ∧
    ∀ (S : Nat → Prop) (w' : World), Keeps S w w' → (∀ b, lo ≤ b → b < hi → ¬ S b) → w'.cell? ⟨lo, p, none⟩ = some (.slice a (Ps p).length c) ∧
      ∀ g, a = some ⟨g, 0, none⟩ → ∀ k, k < (Ps p).length → w'.cell? ⟨g, k * 2, none⟩ = some (.int .i64 ((Ps p).getD k (0, 0)).1) ∧ w'.cell? ⟨g, k * 2 + 1, none⟩ = some (.int .i64 ((Ps p).getD k (0, 0)).2) := by
  obtain ⟨hh, vals, hb, hlh, hs, hv⟩ := h
  obtain ⟨a, c, h1, h2⟩ := hv p hp
  refine ⟨a, c, h2.elim (fun h => .inl h) (fun ⟨g, h3, _⟩ => .inr ⟨g, h3⟩), fun S w' hk hS => ⟨(hb.kept hk (hS lo (Nat.le_refl _) hlh)).cell h1, fun g hg k hkl => ?_⟩⟩
  rcases h2 with h2 | ⟨g', h3, h4, h5, cs, t, h6, h7⟩
  · rw [h2] at hkl; exact absurd hkl (Nat.not_lt_zero _)
  · have e : g' = g := by
      rw [h3] at hg
      injection hg with hg
      injection hg
    subst e
    have h8 := h6.kept hk (hS g' h4 h5)
    exact ⟨h8.cell (h7 k hkl).1, h8.cell (h7 k hkl).2⟩

theorem start_state {w0 W : World} {T : Nat} {t : TypeId} {cs : Array Value} {n lo hi gf gc gd gv gq : Nat} {d fv fq : Nat → Int} (hA : Apart T lo hi gf gc gd gv gq) (hB : Blk W T cs t) (hd : IRow W gd n d) (hv : IRow W gv n fv) (hq : IRow W gq n fq)
    (hK : Keeps (fun b => b = T ∨ b = gd ∨ b = gv ∨ b = gq) w0 W) (src : Nat) (h0 : 0 < n) : RState w0 T t cs n gd gv gq ((W.setCell ⟨gq, 0, none⟩ (.int .i64 src)).setCell ⟨T, 5, none⟩ (.slice (some ⟨gq, 0, none⟩) 1 n)) d [src] := by
  refine ⟨(hB.other (a := ⟨gq, 0, none⟩) hA.Tq _).set 5 _, (hd.other (a := ⟨gq, 0, none⟩) hA.dq _).other (a := ⟨T, 5, none⟩) (Ne.symm hA.Td) _, ⟨fv, (hv.other (a := ⟨gq, 0, none⟩) hA.vq _).other (a := ⟨T, 5, none⟩) (Ne.symm hA.Tv) _⟩, ⟨_, (hq.set h0 src).other (a := ⟨T, 5, none⟩) (Ne.symm hA.Tq) _, fun i hi => ?_⟩, (hK.setCell (p := ⟨gq, 0, none⟩) (fun _ => .inr (.inr (.inr rfl))) _).setCell (p := ⟨T, 5, none⟩) (fun _ => .inl rfl) _⟩
  have : i = 0 := by simpa using hi
  subst this
  rw [upd_same]
  rfl

set_option maxHeartbeats 4000000 in
set_option maxRecDepth 100000 in
theorem reach_any (T n m lo hi gf gc gd gv gq q src : Nat) (ac : Option Addr) (t : TypeId) (cs : Array Value) (Ps : Nat → List (Nat × Nat)) (F C : Nat → Bool) (w : World) (hn : n ≤ 4096) (hm : m ≤ 4096)
    (hB : Blk w T cs t) (hW : WalkCells cs n m lo gf ac gd gv gq q) (hP : PortsAt w lo hi n Ps) (hF : BRow w gf n F) (hac : 0 < m → ac = some ⟨gc, 0, none⟩ ∧ BRow w gc m C) (hA : Apart T lo hi gf gc gd gv gq)
    (r1 : ∃ f, IRow w gd n f) (r2 : ∃ f, IRow w gv n f) (r3 : ∃ f, IRow w gq n f) (hsrc : src < n) (hpv : ∀ u, u < n → ∀ pr, pr ∈ Ps u → pr.1 < n ∧ pr.2 < m) (hpl : ∀ u, (Ps u).length ≤ 8192) :
    Calls Try.prog 47 #[.pointer (some ⟨T, 0, none⟩), .int .i64 src] w fun e w' => ∃ d Q, e = .returned (.tuple #[.int .i64 (Q.length : Nat), .int .i64 (d (Q.getD (Q.length - 1) 0))]) ∧
      G.BInv n Ps F C src d Q Q.length 0 ∧ RState w T t cs n gd gv gq w' d Q := by
  have c3 := hB.cell hW.c3
  replace hac : Hid (0 < m → ac = some ⟨gc, 0, none⟩ ∧ BRow w gc m C) := hac
  obtain ⟨f0, r1⟩ := r1
  go_enter Try.func47, Try.ntmps47
  go_wp2
  go_loopw [6, 16] (fun p i wr => ∃ k : Nat, k ≤ n ∧ i = .int .i64 k ∧ (∃ f', IRow wr gd n f' ∧ ∀ j, j < k → f' j = -1) ∧ Keeps (fun b => b = gd) w wr) (fun _ i _ => n - (intOf i).toNat)
  case atStart => exact ⟨0, Nat.zero_le _, rfl, ⟨f0, r1, fun j hj => absurd hj (Nat.not_lt_zero _)⟩, Keeps.refl _ _⟩
  case round =>
    obtain ⟨k, hk, rfl, ⟨f', hrow, hf'⟩, hK⟩ := hrel
    have hB1 := hB.kept hK hA.Td
    by_cases hlt : k < n
    · have d3 := hB1.cell hW.c3
      have e2 := hrow.cell hlt
      have e3 := hrow.free k
      have hi1 : (k : Int) < (n : Int) := by omega
      have hrow2 : Hid (IRow (wr.setCell ⟨gd, k, none⟩ (.int .i64 (-1))) gd n (upd f' k (-1))) := hrow.set hlt (-1)
      go_wp2
      go_roundw
      case rel =>
        refine ⟨k + 1, by omega, by go_num, ⟨_, hrow2.out, fun j hj => ?_⟩, hK.setCell (p := ⟨gd, k, none⟩) (fun _ => rfl) _⟩
        by_cases e : j = k
        · subst e; exact upd_same _ _ _
        · rw [upd_other _ _ _ e]; exact hf' j (by omega)
      case measure => simp [intOf]; omega
    · obtain ⟨fv, r2⟩ := r2
      obtain ⟨fq, r3⟩ := r3
      have s2 := r2.kept hK (Ne.symm hA.dv)
      have s3 := r3.kept hK (Ne.symm hA.dq)
      have d3 := hB1.cell hW.c3
      have d4 := hB1.cell hW.c4
      have d5 := hB1.cell hW.c5
      have f5 := hB1.free 5
      have e2 := hrow.cell hsrc
      have e3 := hrow.free src
      have e4 := s2.cell hsrc
      have e5 := s2.free src
      have hi1 : (src : Int) < (n : Int) := by omega
      have nvd : gv ≠ gd := Ne.symm hA.dv
      have ndv : gd ≠ gv := hA.dv
      have nTd : T ≠ gd := hA.Td
      have nTv : T ≠ gv := hA.Tv
      have ndT : gd ≠ T := Ne.symm hA.Td
      have nvT : gv ≠ T := Ne.symm hA.Tv
      go_upto_region 6 with fail
      go_region_held3 (fun w' => w'.cell? ⟨T, 3, none⟩ = some (.slice (some ⟨gd, 0, none⟩) n n) ∧ w'.cell? ⟨T, 4, none⟩ = some (.slice (some ⟨gv, 0, none⟩) n n)) (go_keep) (fail)
      have hB6 : Blk (((wr.setCell ⟨gd, src, none⟩ (.int .i64 0)).setCell ⟨gv, src, none⟩ (.int .i64 (-1))).drew) T cs t := (hB1.other (a := ⟨gd, src, none⟩) hA.Td _).other (a := ⟨gv, src, none⟩) hA.Tv _
      have hd6 : IRow (((wr.setCell ⟨gd, src, none⟩ (.int .i64 0)).setCell ⟨gv, src, none⟩ (.int .i64 (-1))).drew) gd n (upd f' src 0) := (hrow.set hsrc 0).other (a := ⟨gv, src, none⟩) hA.dv _
      have hv6 : IRow (((wr.setCell ⟨gd, src, none⟩ (.int .i64 0)).setCell ⟨gv, src, none⟩ (.int .i64 (-1))).drew) gv n (upd fv src (-1)) := (s2.other (a := ⟨gd, src, none⟩) (Ne.symm hA.dv) _).set hsrc (-1)
      have hq6 : IRow (((wr.setCell ⟨gd, src, none⟩ (.int .i64 0)).setCell ⟨gv, src, none⟩ (.int .i64 (-1))).drew) gq n fq := (s3.other (a := ⟨gd, src, none⟩) (Ne.symm hA.dq) _).other (a := ⟨gv, src, none⟩) (Ne.symm hA.vq) _
      have hK6 : Keeps (fun b => b = T ∨ b = gd ∨ b = gv ∨ b = gq) w (((wr.setCell ⟨gd, src, none⟩ (.int .i64 0)).setCell ⟨gv, src, none⟩ (.int .i64 (-1))).drewN 1) := (((hK.mono (fun i _ h => .inr (.inl h))).setCell (p := ⟨gd, src, none⟩) (fun _ => .inr (.inl rfl)) _).setCell (p := ⟨gv, src, none⟩) (fun _ => .inr (.inr (.inl rfl))) _).drewN 1
      rw [show ((wr.setCell ⟨gd, src, none⟩ (.int .i64 0)).setCell ⟨gv, src, none⟩ (.int .i64 (-1))).drewN 1 = ((wr.setCell ⟨gd, src, none⟩ (.int .i64 0)).setCell ⟨gv, src, none⟩ (.int .i64 (-1))).drew from rfl] at hK6
      have hbf : Hid (G.BInv n Ps F C src (upd f' src 0) [src] 0 0) := G.bfs_start hsrc _ (upd_same _ _ _) (fun v hv hne => by rw [upd_other _ _ _ hne]; exact hf' v (by omega))
      clear e2 e3 e4 e5 d3 d4 d5 f5 s2 s3 hrow hf' hB1 hK r2 r3 r1 c3
      generalize ((wr.setCell ⟨gd, src, none⟩ (.int .i64 0)).setCell ⟨gv, src, none⟩ (.int .i64 (-1))).drew = W6 at *
      generalize upd f' src 0 = d0 at *
      have hst := start_state hA hB6 hd6 hv6 hq6 hK6 src (by omega)
      have lT := hB6.lt
      have lq := hq6.lt
      have c5 := hB6.cell hW.c5
      have f5 := hB6.free 5
      have hap1 : ∃ u, W6.cell? ⟨gq, 0, none⟩ = some u := ⟨_, hq6.cell (by omega)⟩
      have hap2 := hq6.free 0
      have nqT : gq ≠ T := Ne.symm hA.Tq
      have nTq : T ≠ gq := hA.Tq
      have hn0 : (0 : Int) ≤ (n : Int) := by omega
      go_upto_region 8 with (at_builtin; refine wpList_append_cell rfl (.tmp 43) (.tmp 45) rfl W6 gq 0 n src rfl rfl (by omega) lq hap1 hap2 ?_)
      have hst1 := hst.alloc (.cells #[.int .i64 (src : Int)] 3)
      clear hst hB6 hd6 hv6 hq6 hK6 lT lq c5 f5 hap1 hap2 nqT nTq hn0
      generalize ((W6.setCell ⟨gq, 0, none⟩ (.int .i64 src)).setCell ⟨T, 5, none⟩ (.slice (some ⟨gq, 0, none⟩) 1 n)).alloc (.cells #[.int .i64 src] 3) = W7 at *
      go_wp2_with fail
      go_loopw [7] (fun i wr => ∃ (x : Nat) (d : Nat → Int) (Q : List Nat), i = .int .i64 x ∧ G.BInv n Ps F C src d Q x 0 ∧ RState w T t cs n gd gv gq wr d Q) (fun i _ => n - (intOf i).toNat)
      case atStart => exact ⟨0, d0, [src], rfl, hbf.out, hst1⟩
      case round =>
        clear hst1 hbf
        obtain ⟨x, d, Q, rfl, hI, hS⟩ := hrel
        have hQn := hI.length
        have hil := hI.il
        have t5 := hS.c5 hW
        by_cases hlt : x < Q.length
        · have hpm := G.getD_mem hlt
          have hpn := hI.lt _ hpm
          have tq := hS.qcell hlt hQn
          have t0 := hS.c0 hW
          obtain ⟨ar, cr, hnil, hrow⟩ := hP.rowAll hpn
          have tr := (hrow _ wr hS.keeps hA.pl).1
          have hplp := hpl (Q.getD x 0)
          have hi1 : (x : Int) < (Q.length : Int) := by omega
          have hi2 : ((Q.getD x 0 : Nat) : Int) < (n : Int) := by omega
          generalize hp : Q.getD x 0 = p at *
          have hp' : Hid (Q.getD x 0 = p) := hp
          clear hp
          go_wp2_with fail
          go_loopw [73] (fun i wr => ∃ (y : Nat) (d : Nat → Int) (Q : List Nat), y ≤ (Ps p).length ∧ i = .int .i64 y ∧ G.BInv n Ps F C src d Q x y ∧ x < Q.length ∧ Hid (Q.getD x 0 = p) ∧ RState w T t cs n gd gv gq wr d Q) (fun i _ => (Ps p).length - (intOf i).toNat)
          case atStart => exact ⟨0, d, Q, Nat.zero_le _, rfl, hI, hlt, hp', hS⟩
          case round =>
            clear hI hS hp' t5 tq t0 tr hil hlt hi1 hQn hpm
            obtain ⟨y, d, Q, hy, rfl, hI, hlt, hp', hS⟩ := hrel
            have hQn := hI.length
            by_cases hyl : y < (Ps p).length
            · rcases hnil with hnil | ⟨g, rfl⟩
              · rw [hnil] at hyl; exact absurd hyl (Nat.not_lt_zero _)
              have hcs := (hrow _ wr hS.keeps hA.pl).2 g rfl y hyl
              have hget : (Ps p)[y]? = some ((Ps p).getD y (0, 0)) := by rw [List.getD, List.getElem?_eq_getElem hyl]; rfl
              have hin := hpv p hpn _ (List.mem_of_getElem? hget)
              obtain ⟨cp1, cp2⟩ := hcs
              generalize (Ps p).getD y (0, 0) = pr at *
              obtain ⟨u, l⟩ := pr
              have hget' : Hid ((Ps (Q.getD x 0))[y]? = some (u, l)) := by rw [hp'.out]; exact hget
              have hul : u < n := hin.1
              have hll : l < m := hin.2
              simp only at cp1 cp2
              clear hget hin
              have hyi : (y : Int) < ((Ps p).length : Int) := by omega
              have lT := hS.lt
              go_upto_region 15 with fail
              have RS1 : RState w T t cs n gd gv gq (wr.alloc (.cells #[.int .i64 u, .int .i64 l] 61)) d Q := hS.alloc _
              have HB : Blk (wr.alloc (.cells #[.int .i64 u, .int .i64 l] 61)) wr.heap.size #[.int .i64 u, .int .i64 l] 61 := Blk.new wr _ _
              have hHT : wr.heap.size ≠ T := by omega
              have hHd : wr.heap.size ≠ gd := by omega
              have hHv : wr.heap.size ≠ gv := by omega
              have hHq : wr.heap.size ≠ gq := by omega
              clear hS lT cp1 cp2
              generalize wr.alloc (.cells #[.int .i64 u, .int .i64 l] 61) = W1 at *
              generalize wr.heap.size = H at *
              have HF := hF.kept RS1.keeps hA.f
              obtain ⟨rfl, hC⟩ := hac.out (Nat.lt_of_le_of_lt (Nat.zero_le _) hll)
              have HC := hC.kept RS1.keeps hA.c
              have z1 := RS1.c1 hW
              have z2 := RS1.c2 hW
              have z3 := RS1.c3 hW
              have z4 := RS1.dist.cell hul
              have z5 := HF.cell hul
              have z6 := HC.cell hll
              have h0 := HB.cell (i := 0) rfl
              have h1 := HB.cell (i := 1) rfl
              have hul' : (u : Int) < (n : Int) := by omega
              have hll' : (l : Int) < (m : Int) := by omega
              go_cut [105] (fun s wx => s = .bool (F u || (C l || decide (0 ≤ d u))) ∧ ∃ nd, wx = W1.drewN nd)
              case first =>
                rcases hfu : F u with _ | _
                · rw [hfu] at z5
                  rcases hcl : C l with _ | _
                  · rw [hcl] at z6
                    by_cases hdu : 0 ≤ d u
                    · have hg : decide (0 ≤ d u) = true := by simp [hdu]
                      go_quiet (fail)
                      go_wp2
                      go_meet
                      case rel => exact ⟨by simp [hfu, hcl, hdu], _, rfl⟩
                    · have hg : decide (0 ≤ d u) = false := by simp [hdu]
                      go_quiet (fail)
                      go_wp2
                      go_meet
                      case rel => exact ⟨by simp [hfu, hcl, hdu], _, rfl⟩
                  · rw [hcl] at z6
                    go_quiet (fail)
                    go_wp2
                    go_meet
                    case rel => exact ⟨by simp [hcl], _, rfl⟩
                · rw [hfu] at z5
                  go_quiet (fail)
                  go_wp2
                  go_meet
                  case rel => exact ⟨by simp [hfu], _, rfl⟩
              case rest =>
                obtain ⟨rfl, nd, rfl⟩ := hcut
                have RS2 := RS1.drewN nd
                rcases hc : (F u || (C l || decide (0 ≤ d u))) with _ | _
                · have hc3 : F u = false ∧ C l = false ∧ d u < 0 := by
                    simp only [Bool.or_eq_false_iff, decide_eq_false_iff_not] at hc
                    exact ⟨hc.1, hc.2.1, by omega⟩
                  have hadd : Hid (G.BInv n Ps F C src (upd d u (d p + 1)) (Q ++ [u]) x (y + 1)) := by
                    have := hI.add hlt hget'.out hul hc3.1 hc3.2.1 hc3.2.2
                    rw [hp'.out] at this
                    exact this
                  have hpd : 0 ≤ d p ∧ d p < n := by
                    have h1 := hI.idx x hlt
                    have h2 := (hI.mem _ (hI.lt _ (G.getD_mem hlt))).1 (G.getD_mem hlt)
                    rw [hp'.out] at h1 h2
                    omega
                  have hpu : p ≠ u := fun e => by
                    subst e; omega
                  have hup : u ≠ p := Ne.symm hpu
                  have HB2 : Blk (W1.drewN nd) H #[.int .i64 u, .int .i64 l] 61 := HB
                  have hq1 := hadd.out.length
                  rw [List.length_append] at hq1
                  have hQl : Q.length < n := by simp at hq1; omega
                  clear hI hget' HF HC z1 z2 z3 z4 z5 z6 h0 h1 RS1 HB hc hc3
                  generalize W1.drewN nd = W2 at *
                  have z3 := RS2.c3 hW
                  have z4 := RS2.dist.cell hul
                  have z5 := RS2.dist.cell hpn
                  have z6 := RS2.dist.free u
                  have h0 := HB2.cell (i := 0) rfl
                  have nTd : T ≠ gd := hA.Td
                  have ndT : gd ≠ T := Ne.symm hA.Td
                  have ndH : gd ≠ H := Ne.symm hHd
                  have hpi : (p : Int) < (n : Int) := by omega
                  have hwr : IntKind.i64.wrap (d p + 1) = d p + 1 := wrap_small _ (by omega) (by omega)
                  go_upto_region 16 with fail
                  go_region_held3 (fun w' => w'.cell? ⟨T, 3, none⟩ = some (.slice (some ⟨gd, 0, none⟩) n n) ∧ w'.cell? ⟨H, 0, none⟩ = some (.int .i64 u) ∧ w'.cell? ⟨gd, p, none⟩ = some (.int .i64 (d p))) (simp [*, World.cell?_alloc_some, World.cell?_setCell_far, World.cell?_setCell_other]) (fail)
                  have RS3 : RState w T t cs n gd gv gq (W2.setCell ⟨gd, u, none⟩ (.int .i64 (d p + 1))).drew (upd d u (d p + 1)) Q := (RS2.setDist hA hul (d p + 1)).drewN 1
                  have HB3 : Blk (W2.setCell ⟨gd, u, none⟩ (.int .i64 (d p + 1))).drew H #[.int .i64 u, .int .i64 l] 61 := HB2.other (a := ⟨gd, u, none⟩) hHd _
                  clear RS2 HB2 z3 z4 z5 z6 h0 hwr
                  generalize (W2.setCell ⟨gd, u, none⟩ (.int .i64 (d p + 1))).drew = W3 at *
                  generalize upd d u (d p + 1) = d3 at *
                  have z3 := RS3.c4 hW
                  obtain ⟨vv, hvv⟩ := RS3.via
                  have z4 := hvv.cell hul
                  have z6 := hvv.free u
                  have h0 := HB3.cell (i := 0) rfl
                  have h1 := HB3.cell (i := 1) rfl
                  have nTv : T ≠ gv := hA.Tv
                  have nvT : gv ≠ T := Ne.symm hA.Tv
                  have nvH : gv ≠ H := Ne.symm hHv
                  go_upto_region 17 with fail
                  go_region_held3 (fun w' => w'.cell? ⟨T, 4, none⟩ = some (.slice (some ⟨gv, 0, none⟩) n n) ∧ w'.cell? ⟨H, 0, none⟩ = some (.int .i64 u) ∧ w'.cell? ⟨H, 1, none⟩ = some (.int .i64 l)) (go_keep) (fail)
                  have RS4 : RState w T t cs n gd gv gq (W3.setCell ⟨gv, u, none⟩ (.int .i64 l)).drew d3 Q := (RS3.setVia hA hul l).drewN 1
                  have HB4 : Blk (W3.setCell ⟨gv, u, none⟩ (.int .i64 l)).drew H #[.int .i64 u, .int .i64 l] 61 := HB3.other (a := ⟨gv, u, none⟩) hHv _
                  clear RS3 HB3 z3 z4 z6 h0 h1 hvv vv
                  generalize (W3.setCell ⟨gv, u, none⟩ (.int .i64 l)).drew = W4 at *
                  have z5 := RS4.c5 hW
                  have z6 := RS4.blk.free 5
                  obtain ⟨qf, hqf, hqf2⟩ := RS4.que
                  have hap1 : ∃ v, W4.cell? ⟨gq, Q.length, none⟩ = some v := ⟨_, hqf.cell hQl⟩
                  have hap2 := hqf.free Q.length
                  have lq := hqf.lt
                  have lT := RS4.lt.1
                  have lH := HB4.lt
                  have h0 := HB4.cell (i := 0) rfl
                  have nTq : T ≠ gq := hA.Tq
                  have nqT : gq ≠ T := Ne.symm hA.Tq
                  have nqH : gq ≠ H := Ne.symm hHq
                  have RS5 : RState w T t cs n gd gv gq (((W4.setCell ⟨gq, Q.length, none⟩ (.int .i64 u)).setCell ⟨T, 5, none⟩ (.slice (some ⟨gq, 0, none⟩) (Q.length + 1) n))) d3 (Q ++ [u]) := RS4.push hA hQl hW.size u
                  have RS6 : RState w T t cs n gd gv gq ((((W4.setCell ⟨gq, Q.length, none⟩ (.int .i64 u)).alloc (.cells #[.int .i64 u] 3)).drewN 1).setCell ⟨T, 5, none⟩ (.slice (some ⟨gq, 0, none⟩) (Q.length + 1) n)) d3 (Q ++ [u]) := by
                    have e : ((W4.setCell ⟨gq, Q.length, none⟩ (.int .i64 u)).alloc (.cells #[.int .i64 u] 3)).setCell ⟨T, 5, none⟩ (.slice (some ⟨gq, 0, none⟩) (Q.length + 1) n) = ((W4.setCell ⟨gq, Q.length, none⟩ (.int .i64 u)).setCell ⟨T, 5, none⟩ (.slice (some ⟨gq, 0, none⟩) (Q.length + 1) n)).alloc (.cells #[.int .i64 u] 3) := World.setCell_alloc_past _ _ _ _ (by simpa using lT)
                    have h := (RS5.alloc (.cells #[.int .i64 u] 3)).drewN 1
                    rw [← e] at h
                    exact h
                  clear RS5
                  go_upto_region 18 with fail
                  go_region_law (refine step_append_cell rfl (.tmp 134) (.tmp 137) rfl W4 gq Q.length n u 1 (by simp [Act.eval, Act.put]) (by simp [Act.eval, Act.put]; try rfl) hQl lq hap1 hap2 ?_)
                  all_goals go_wp2
                  all_goals go_roundw
                  all_goals first
                    | exact ⟨y + 1, d3, Q ++ [u], by omega, by go_num, hadd.out, by rw [List.length_append]; omega, by rw [G.getD_snoc_left hlt]; exact hp', RS6⟩
                    | (simp [intOf]; omega)
                · have hskip : Hid (G.BInv n Ps F C src d Q x (y + 1)) := hI.skip hlt hget'.out hul (by
                    simp only [Bool.or_eq_true, decide_eq_true_eq] at hc
                    exact hc)
                  clear hI hget' HF HC z1 z2 z3 z4 z5 z6 h0 h1
                  go_wp2_with fail
                  go_roundw
                  case rel => exact ⟨y + 1, d, Q, by omega, by go_num, hskip.out, hlt, hp', RS2⟩
                  case measure => simp [intOf]; omega
            · obtain rfl : y = (Ps p).length := by omega
              have hI2 : Hid _ := hI.next hlt (by rw [hp'.out]; exact Nat.le_refl _)
              go_wp2_with fail
              go_roundw
              case rel => exact ⟨x + 1, d, Q, by go_num, hI2.out, hS⟩
              case measure => simp [intOf]; omega
        · obtain rfl : x = Q.length := by omega
          have hpos : 0 < Q.length := by
            have := hI.head
            rcases Q with _ | ⟨a, r⟩
            · simp at this
            · simp
          have hlast : Q.length - 1 < Q.length := by omega
          have tq := hS.qcell hlast hQn
          have t3 := hS.c3 hW
          have hpn := hI.lt _ (G.getD_mem hlast)
          have td := hS.dist.cell hpn
          have hI' : Hid (G.BInv n Ps F C src d Q Q.length 0) := hI
          obtain ⟨k2, hk2⟩ : ∃ k2, Q.length = k2 + 1 := ⟨Q.length - 1, by omega⟩
          have hp : Q.getD (Q.length - 1) 0 = Q.getD k2 0 := by rw [hk2]; rfl
          rw [hp] at td hpn
          rw [show Q.length - 1 = k2 by omega] at tq
          have hp' : Hid (d (Q.getD (Q.length - 1) 0) = d (Q.getD k2 0)) := by rw [hp]; rfl
          have hk2' : Hid (Q.length = k2 + 1) := hk2
          clear hp hI hlast
          generalize Q.getD k2 0 = p at *
          have hi2 : (p : Int) < (n : Int) := by omega
          have hi3 : k2 < 4096 := by omega
          have hw1 : IntKind.i64.wrap ((Q.length : Int) - 1) = (k2 : Int) := by rw [wrap_small _ (by omega) (by omega)]; omega
          have hb1 : (k2 : Int) < (Q.length : Int) := by omega
          have hb2 : k2 < Q.length := by omega
          clear hk2
          go_upto_region 20 with fail
          go_region_held3 (fun w' => w'.cell? ⟨T, 5, none⟩ = some (.slice (some ⟨gq, 0, none⟩) Q.length n) ∧ w'.cell? ⟨T, 3, none⟩ = some (.slice (some ⟨gd, 0, none⟩) n n) ∧ w'.cell? ⟨gq, k2, none⟩ = some (.int .i64 (p : Int)) ∧ w'.cell? ⟨gd, p, none⟩ = some (.int .i64 (d p))) (go_keep) (fail)
          go_wp2_with fail
          go_ret2
          refine ⟨d, Q, ?_, hI'.out, hS.drewN _⟩
          rw [hp'.out]
          rfl
end Go.Proofs.Qxb6608983a
