import Derived.Test.Qxb6608983aMem
import Derived.Deep.AppendLies
import Derived.Deep.DeepCutAuto
import Derived.Laws.OwnMore
set_option linter.unusedVariables false
namespace Go.Proofs.Qxb6608983a
open Go.ChangeShapes Go.WideShapes Go.ChangeAt Go.RowKit
open G (upd upd_same upd_other)

/-! ### the plain lists of ports -/
def push (Ps : Nat → List (Nat × Nat)) (u : Nat) (x : Nat × Nat) : Nat → List (Nat × Nat) := fun v => if v = u then Ps v ++ [x] else Ps v
theorem push_same (Ps : Nat → List (Nat × Nat)) (u : Nat) (x : Nat × Nat) : push Ps u x u = Ps u ++ [x] := if_pos rfl
theorem push_other (Ps : Nat → List (Nat × Nat)) (u : Nat) (x : Nat × Nat) {v : Nat} (h : v ≠ u) : push Ps u x v = Ps v := if_neg h
/-- the ports that the first i links make -/
def portsTo (A B : Nat → Nat) : Nat → Nat → List (Nat × Nat)
  | 0 => fun _ => []
  | i + 1 => push (push (portsTo A B i) (A i) (B i, i)) (B i) (A i, i)

theorem mem_push {Ps : Nat → List (Nat × Nat)} {u v : Nat} {x y : Nat × Nat} : y ∈ push Ps u x v ↔ y ∈ Ps v ∨ (v = u ∧ y = x) := by
  by_cases e : v = u
  · subst e; rw [push_same, List.mem_append, List.mem_singleton]; simp
  · rw [push_other _ _ _ e]; simp [e]

theorem mem_portsTo (A B : Nat → Nat) : ∀ (i u v l : Nat), (v, l) ∈ portsTo A B i u ↔ l < i ∧ G.Joins A B l u v
  | 0, u, v, l => by simp [portsTo]
  | i + 1, u, v, l => by
    unfold portsTo
    rw [mem_push, mem_push, mem_portsTo A B i u v l]
    unfold G.Joins
    constructor
    · rintro ((⟨h1, h2⟩ | ⟨h1, h2⟩) | ⟨h1, h2⟩)
      · exact ⟨by omega, h2⟩
      · injection h2 with h3 h4
        subst h4
        exact ⟨by omega, .inl ⟨h1.symm, h3.symm⟩⟩
      · injection h2 with h3 h4
        subst h4
        exact ⟨by omega, .inr ⟨h3.symm, h1.symm⟩⟩
    · rintro ⟨h1, h2⟩
      by_cases e : l = i
      · subst e
        rcases h2 with ⟨h2, h3⟩ | ⟨h2, h3⟩
        · exact .inl (.inr ⟨h2.symm, by rw [h3]⟩)
        · exact .inr ⟨h3.symm, by rw [h2]⟩
      · exact .inl (.inl ⟨by omega, h2⟩)

theorem portsOf_portsTo (n m : Nat) (A B : Nat → Nat) : G.PortsOf n m A B (portsTo A B m) := fun u _ v l => mem_portsTo A B m u v l

theorem push_length (Ps : Nat → List (Nat × Nat)) (u : Nat) (x : Nat × Nat) (v : Nat) : (push Ps u x v).length ≤ (Ps v).length + 1 := by
  by_cases e : v = u
  · subst e; rw [push_same]; simp
  · rw [push_other _ _ _ e]; omega
theorem portsTo_length (A B : Nat → Nat) : ∀ (i v : Nat), (portsTo A B i v).length ≤ 2 * i
  | 0, v => by simp [portsTo]
  | i + 1, v => by
    have h1 := push_length (push (portsTo A B i) (A i) (B i, i)) (B i) (A i, i) v
    have h2 := push_length (portsTo A B i) (A i) (B i, i) v
    have h3 := portsTo_length A B i v
    show (push (push (portsTo A B i) (A i) (B i, i)) (B i) (A i, i) v).length ≤ _
    omega

/-- a list of ports, cell by cell -/
def pcells (l : List (Nat × Nat)) : List Value := l.flatMap fun p => [Value.int .i64 p.1, Value.int .i64 p.2]
theorem pcells_snoc (l : List (Nat × Nat)) (x : Nat × Nat) : pcells (l ++ [x]) = pcells l ++ [Value.int .i64 x.1, Value.int .i64 x.2] := by simp [pcells]
theorem pcells_get : ∀ (l : List (Nat × Nat)) (k : Nat), k < l.length → (pcells l)[k * 2]? = some (.int .i64 (l.getD k (0, 0)).1) ∧ (pcells l)[k * 2 + 1]? = some (.int .i64 (l.getD k (0, 0)).2)
  | [], k, h => absurd h (Nat.not_lt_zero _)
  | x :: l, 0, _ => ⟨rfl, rfl⟩
  | x :: l, k + 1, h => by
    have ih := pcells_get l k (by simpa using h)
    have e : pcells (x :: l) = Value.int .i64 x.1 :: Value.int .i64 x.2 :: pcells l := by simp [pcells]
    rw [e, show (k + 1) * 2 = k * 2 + 1 + 1 by omega]
    simp only [List.getElem?_cons_succ, List.getD_cons_succ]
    exact ih

/-! ### the slice of slices in memory -/
/-- THE PORTS WHILE THEY ARE MADE: block gp holds n slices; each owns its row, from block lo on; no two own one row. -/
def PIn (w : World) (lo gp n : Nat) (Ps : Nat → List (Nat × Nat)) : Prop :=
  ∃ vals : Array Value, Blk w gp vals 59 ∧ vals.size = n ∧
    (∀ p, p < n → ∃ v, vals[p]? = some v ∧ w.ownsRow lo 61 2 v (Ps p).length (pcells (Ps p))) ∧
    (∀ (p q : Nat) (v v' : Value), p ≠ q → vals[p]? = some v → vals[q]? = some v' → v.ownBlock = none ∨ v.ownBlock ≠ v'.ownBlock)

theorem info59 : (Try.prog.info? 59).map (fun i => (i.zero, i.size, i.bytes)) = some (some (.slice none 0 0), 1, 24) := by kernel_rfl
theorem info61 : (Try.prog.info? 61).map (fun i => (i.zero, i.size, i.bytes)) = some (some (.agg #[.int .i64 0, .int .i64 0]), 2, 16) := by kernel_rfl

theorem make_ports (n : Nat) (hn : n ≤ 1048576) (w : World) : (Instr.makeSlice 28 (.int .i64 (n : Int)) (.int .i64 (n : Int))).run Try.prog w = .ok (.slice (some ⟨w.heap.size, 0, none⟩) n n) (w.alloc (.cells (madeCells #[.slice none 0 0] n) 59)) :=
  run_make_row' (P := Try.prog) 28 59 (.slice none 0 0) 24 Try.underlying28 info59 rfl .i64 .i64 n (by omega) (by omega) w

theorem pin_made (w : World) (n : Nat) : PIn (w.alloc (.cells (madeCells #[.slice none 0 0] n) 59)) (w.heap.size + 1) w.heap.size n (fun _ => []) := by
  refine ⟨_, Blk.new w _ 59, made_size _ n, fun p hp => ⟨_, made_get _ n p hp, World.ownsRow_nil _ _ _ _⟩, fun p q v v' hne hv hv' => .inl ?_⟩
  have hp : p < n := by
    have := (Array.getElem?_eq_some_iff.1 hv).1
    rw [made_size] at this
    exact this
  rw [made_get _ n p hp] at hv
  injection hv with hv
  rw [← hv]
  rfl

theorem PIn.at {w : World} {lo gp n : Nat} {Ps : Nat → List (Nat × Nat)} (h : PIn w lo gp n Ps) {u : Nat} (hu : u < n) :
    ∃ v, w.cell? ⟨gp, u, none⟩ = some v ∧ w.frozen? ⟨gp, u, none⟩ = false ∧ w.ownsRow lo 61 2 v (Ps u).length (pcells (Ps u)) ∧ ∃ a c, v = .slice a (Ps u).length c := by
  obtain ⟨vals, hb, hs, hv, hd⟩ := h
  obtain ⟨v, h1, h2⟩ := hv u hu
  refine ⟨v, hb.cell h1, hb.free u, h2, ?_⟩
  rcases h2.2 with ⟨rfl, h3⟩ | ⟨g, cap, cur, h3, _⟩
  · exact ⟨none, 0, by rw [h3]⟩
  · exact ⟨_, _, h3⟩

/-- ONE APPEND AND ITS STORE -/
theorem PIn.push {w W' : World} {lo gp n : Nat} {Ps : Nat → List (Nat × Nat)} (h : PIn w lo gp n Ps) (hlo : gp < lo) {u : Nat} (hu : u < n) {v : Value} (hv : w.cell? ⟨gp, u, none⟩ = some v) (o : Obj) {x : Nat × Nat} {g cap : Nat}
    (hown : W'.ownsRow lo 61 2 (.slice (some ⟨g, 0, none⟩) ((Ps u).length + 1) cap) ((Ps u).length + 1) (pcells (Ps u) ++ [Value.int .i64 x.1, Value.int .i64 x.2]))
    (hg : (w.alloc o).grownBy W' v.ownBlock) (hor : v.ownBlock = some g ∨ g = w.heap.size + 1) :
    PIn (W'.setCell ⟨gp, u, none⟩ (.slice (some ⟨g, 0, none⟩) ((Ps u).length + 1) cap)) lo gp n (Qxb6608983a.push Ps u x) := by
  obtain ⟨vals, hb, hs, hvs, hd⟩ := h
  obtain ⟨v0, hv0, hown0⟩ := hvs u hu
  have ev : v0 = v := by
    have := hb.cell hv0
    rw [hv] at this
    injection this with this
    exact this.symm
  subst ev
  have hgp : gp < w.heap.size := hb.lt
  have hgpne : some gp ≠ v0.ownBlock := fun e => by have := (hown0.lt gp e.symm).1; omega
  have hb' : Blk W' gp vals 59 := (hg.block gp (by simp; omega) hgpne).trans ((Below.heap_alloc w o gp hgp).trans hb)
  have hgl := (hown.lt g rfl).1
  have below : ∀ {vv : Value} {k : Nat} {xs : List Value} (y : Value), W'.ownsRow lo 61 2 vv k xs → (W'.setCell ⟨gp, u, none⟩ y).ownsRow lo 61 2 vv k xs := fun {vv k xs} y ho => by
    refine ⟨ho.1, ?_⟩
    rcases ho.2 with h1 | ⟨g', cp, cur, h1, h2, h3, h4⟩
    · exact .inl h1
    · exact .inr ⟨g', cp, cur, h1, h2, (Below.heap_setCell W' _ _ g' (by show g' ≠ gp; omega)).trans h3, h4⟩
  refine ⟨_, hb'.set u _, by simp [hs], fun p hp => ?_, fun p q v1 v2 hne h1 h2 => ?_⟩
  · by_cases e : p = u
    · subst e
      refine ⟨.slice (some ⟨g, 0, none⟩) ((Ps p).length + 1) cap, by simp [hs, hp], ?_⟩
      rw [push_same, pcells_snoc, List.length_append]
      exact below _ hown
    · obtain ⟨vp, hvp, hop⟩ := hvs p hp
      refine ⟨vp, by rw [Array.getElem?_setIfInBounds_ne (Ne.symm e)]; exact hvp, ?_⟩
      rw [push_other _ _ _ e]
      exact below _ ((hop.alloc o).kept hg (hd p u vp v0 e hvp hv0))
  · have newlt : ∀ (p' : Nat) (v' : Value), vals[p']? = some v' → ∀ k, v'.ownBlock = some k → k < w.heap.size := fun p' v' hp' k hk => by
      have hp'' : p' < n := by rw [← hs]; exact (Array.getElem?_eq_some_iff.1 hp').1
      obtain ⟨v3, hv3, ho3⟩ := hvs p' hp''
      rw [hp'] at hv3
      injection hv3 with hv3
      subst hv3
      exact (ho3.lt k hk).2
    by_cases e1 : p = u
    · subst e1
      have e2 : q ≠ p := Ne.symm hne
      rw [Array.getElem?_setIfInBounds_self_of_lt (by omega)] at h1
      rw [Array.getElem?_setIfInBounds_ne (Ne.symm e2)] at h2
      injection h1 with h1
      subst h1
      right
      intro hh
      have h3 : v2.ownBlock = some g := hh.symm
      rcases hor with hor | hor
      · rcases hd p q v0 v2 hne hv0 h2 with h4 | h4
        · rw [h4] at hor; cases hor
        · exact h4 (hor.trans h3.symm)
      · have := newlt q v2 h2 g h3
        omega
    · rw [Array.getElem?_setIfInBounds_ne (Ne.symm e1)] at h1
      by_cases e2 : q = u
      · subst e2
        rw [Array.getElem?_setIfInBounds_self_of_lt (by omega)] at h2
        injection h2 with h2
        subst h2
        rcases hd p q v1 v0 hne h1 hv0 with h4 | h4
        · exact .inl h4
        · right
          intro hh
          have h3 : v1.ownBlock = some g := hh
          rcases hor with hor | hor
          · exact h4 (h3.trans hor.symm)
          · have := newlt p v1 h1 g h3
            omega
      · rw [Array.getElem?_setIfInBounds_ne (Ne.symm e2)] at h2
        exact hd p q v1 v2 hne h1 h2

theorem one_port (w : World) (x y : Value) : ∀ j u, [x, y][j]? = some u → (w.alloc (.cells #[x, y] 61)).cell? ((⟨w.heap.size, 0, none⟩ : Addr).add j) = some u := by
  have hb : (w.alloc (.cells #[x, y] 61)).heap[w.heap.size]? = some (.cells #[x, y] 61 (0, 0)) := heap_alloc_new w _
  exact World.news_of_block hb

theorem gp_kept {wr w1 : World} {gp u k : Nat} {v : Value} {xs : List Value} (ov : wr.ownsRow (gp + 1) 61 2 v k xs) (cv : wr.cell? ⟨gp, u, none⟩ = some v) (fv : wr.frozen? ⟨gp, u, none⟩ = false) {o : Obj} (hg : (wr.alloc o).grownBy w1 v.ownBlock) :
    w1.cell? ⟨gp, u, none⟩ = some v ∧ w1.frozen? ⟨gp, u, none⟩ = false := by
  have hlt := World.block_lt_of_cell? _ _ cv
  have hne : some gp ≠ v.ownBlock := fun e => by have := (ov.lt gp e.symm).1; omega
  have hb := (hg.block gp (by simp; exact Nat.lt_succ_of_lt hlt) hne).trans (Below.heap_alloc wr o gp hlt)
  exact ⟨(World.cell?_of_block hb).trans cv, (World.frozen?_of_block hb).trans fv⟩

set_option maxHeartbeats 1000000 in
set_option maxRecDepth 100000 in
theorem ports_any (a0 a1 : Option Addr) (c0 c1 n m : Nat) (A B : Nat → Nat) (w : World) (hm : m ≤ 4096) (hn : n ≤ 4096) (h0 : Ints w a0 m (fun i => A i)) (h1 : Ints w a1 m (fun i => B i)) (hE : G.Ends n m A B) :
    Calls Try.prog 12 #[.int .i64 n, .slice a0 m c0, .slice a1 m c1] w fun e w' => e = .returned (.slice (some ⟨w.heap.size, 0, none⟩) n n) ∧ PIn w' (w.heap.size + 1) w.heap.size n (portsTo A B m) ∧ Below w.heap.size w w' ∧ w.heap.size + 1 ≤ w'.heap.size := by
  have hmk := make_ports n (by omega)
  obtain ⟨i0, hi, hz0, hz1, hz2⟩ := info_parts info61
  go_enter Try.func12, Try.ntmps12
  go_wp2
  go_loopw [8] (fun i wr => ∃ k : Nat, k ≤ m ∧ i = .int .i64 k ∧ PIn wr (w.heap.size + 1) w.heap.size n (portsTo A B k) ∧ Below w.heap.size w wr ∧ w.heap.size + 1 ≤ wr.heap.size) (fun i _ => m - (intOf i).toNat)
  case atStart => exact ⟨0, Nat.zero_le _, rfl, pin_made w n, (Below.refl _ _).alloc (Nat.le_refl _) _, by simp⟩
  case round =>
    obtain ⟨k, hk, rfl, hpin, hbel, hsz⟩ := hrel
    by_cases hlt : k < m
    · have hl := hE k hlt
      rcases h0.later hbel with h | ⟨b0, o0, rfl, hc0⟩
      · omega
      rcases h1.later hbel with h | ⟨b1, o1, rfl, hc1⟩
      · omega
      have e0 : wr.cell? ⟨b0, o0 + k, none⟩ = some (.int .i64 (A k)) := hc0 k hlt
      have e1 : wr.cell? ⟨b1, o1 + k, none⟩ = some (.int .i64 (B k)) := hc1 k hlt
      clear hc0 hc1
      have hi1 : (k : Int) < (m : Int) := by omega
      have hA1 : (A k : Int) < (n : Int) := by omega
      have hB1 : (B k : Int) < (n : Int) := by omega
      have hgp : w.heap.size < wr.heap.size := by omega
      have pl := portsTo_length A B k
      have pe : Hid (portsTo A B (k + 1) = Qxb6608983a.push (Qxb6608983a.push (portsTo A B k) (A k) (B k, k)) (B k) (A k, k)) := rfl
      generalize portsTo A B k = Ps at *
      obtain ⟨v, cv, fv, ov, a, c, rfl⟩ := hpin.at hl.1
      have plA := pl (A k)
      go_upto_region 8 with (at_builtin; refine wpList_append_lies _ rfl (.tmp 32) (.tmp 36) 59 rfl (w.heap.size + 1) 61 i0 (.agg #[.int .i64 0, .int .i64 0]) 2 16 Try.underlying59 hi hz0 hz1 hz2 rfl (by decide) _ _ _ rfl (ov.alloc _) ⟨wr.heap.size, 0, none⟩ 1 1 [Value.int .i64 (B k), Value.int .i64 k] rfl rfl (one_port wr _ _) (by simp [Value.oneCell']) (by decide) (by unfold maxLen; omega) (by omega) (by simp; omega) (wr.heap.size + 1) (by simp) ?_; intro g cap w1 hown1 hgrow1 hor1 hlt1; obtain ⟨cv1, fv1⟩ := gp_kept ov cv fv hgrow1)
      have hpin1 := hpin.push (by omega) hl.1 cv _ (x := (B k, k)) hown1 hgrow1 hor1
      have hbel1 := ((hbel.alloc (by omega) _).grown hgrow1 (by simp; omega) (fun j hj => by have := (ov.lt j hj).1; omega)).setCell (p := ⟨w.heap.size, A k, none⟩) (Nat.le_refl _) (.slice (some ⟨g, 0, none⟩) ((Ps (A k)).length + 1) cap)
      generalize w1.setCell ⟨w.heap.size, A k, none⟩ (.slice (some ⟨g, 0, none⟩) ((Ps (A k)).length + 1) cap) = W2 at *
      have plB : (Qxb6608983a.push Ps (A k) (B k, k) (B k)).length ≤ 2 * k + 1 := by
        have h1 := push_length Ps (A k) (B k, k) (B k)
        have h2 := pl (B k)
        omega
      clear hown1 hgrow1 hor1 hlt1 cv1 fv1 cv fv ov hpin hbel pl plA hsz hgp
      generalize Qxb6608983a.push Ps (A k) (B k, k) = Ps1 at *
      have hgp : w.heap.size < W2.heap.size := by obtain ⟨_, hb, _⟩ := hpin1; exact hb.lt
      obtain ⟨v, cv, fv, ov, a', c', rfl⟩ := hpin1.at hl.2.1
      go_wp2_with (at_builtin; refine wpList_append_lies _ rfl (.tmp 44) (.tmp 48) 59 rfl (w.heap.size + 1) 61 i0 (.agg #[.int .i64 0, .int .i64 0]) 2 16 Try.underlying59 hi hz0 hz1 hz2 rfl (by decide) _ _ _ rfl (ov.alloc _) ⟨W2.heap.size, 0, none⟩ 1 1 [Value.int .i64 (A k), Value.int .i64 k] rfl rfl (one_port W2 _ _) (by simp [Value.oneCell']) (by decide) (by unfold maxLen; omega) (by omega) (by simp; omega) (W2.heap.size + 1) (by simp) ?_; intro g2 cap2 w3 hown3 hgrow3 hor3 hlt3; obtain ⟨cv3, fv3⟩ := gp_kept ov cv fv hgrow3)
      go_roundw
      case rel =>
        have hpin3 := hpin1.push (by omega) hl.2.1 cv _ (x := (A k, k)) hown3 hgrow3 hor3
        have hbel3 := ((hbel1.alloc (by omega) _).grown hgrow3 (by simp; omega) (fun j hj => by have := (ov.lt j hj).1; omega)).setCell (p := ⟨w.heap.size, B k, none⟩) (Nat.le_refl _) (.slice (some ⟨g2, 0, none⟩) ((Ps1 (B k)).length + 1) cap2)
        refine ⟨k + 1, by omega, by go_num, by rw [pe.out]; exact hpin3, hbel3, ?_⟩
        obtain ⟨_, hb, _⟩ := hpin3
        exact hb.lt
      case measure => simp [intOf]; omega
    · obtain rfl : k = m := by omega
      go_wp2
      go_ret
      exact ⟨rfl, hpin, hbel, hsz⟩

/-! ### the same, for whoever reads it -/
/-- block lo holds n slices of ports; their rows lie in blocks lo .. hi - 1 -/
def PortsAt (w : World) (lo hi n : Nat) (Ps : Nat → List (Nat × Nat)) : Prop :=
  hi ≤ w.heap.size ∧ ∃ vals : Array Value, Blk w lo vals 59 ∧ lo < hi ∧ vals.size = n ∧
    ∀ p, p < n → ∃ a c, vals[p]? = some (.slice a (Ps p).length c) ∧ (Ps p = [] ∨ ∃ g, a = some ⟨g, 0, none⟩ ∧ lo ≤ g ∧ g < hi ∧ ∃ cs t, Blk w g cs t ∧
      ∀ k, k < (Ps p).length → cs[k * 2]? = some (.int .i64 ((Ps p).getD k (0, 0)).1) ∧ cs[k * 2 + 1]? = some (.int .i64 ((Ps p).getD k (0, 0)).2))

theorem PIn.ports {w : World} {gp n : Nat} {Ps : Nat → List (Nat × Nat)} (h : PIn w (gp + 1) gp n Ps) : PortsAt w gp w.heap.size n Ps := by
  obtain ⟨vals, hb, hs, hv, hd⟩ := h
  refine ⟨Nat.le_refl _, vals, hb, hb.lt, hs, fun p hp => ?_⟩
  obtain ⟨v, h1, h2⟩ := hv p hp
  rcases h2.2 with ⟨rfl, h3⟩ | ⟨g, cap, cur, rfl, h4, h5, h6, h7, h8, h9⟩
  · exact ⟨none, 0, by rw [h3]; exact h1, .inl (List.eq_nil_of_length_eq_zero h3)⟩
  · refine ⟨_, _, h1, .inr ⟨g, rfl, by omega, (Array.getElem?_eq_some_iff.1 h5).1, cur, 61, h5, fun k hk => ?_⟩⟩
    have h10 := pcells_get (Ps p) k hk
    rw [← h9] at h10
    rw [List.getElem?_take_of_lt (by omega), List.getElem?_take_of_lt (by omega), Array.getElem?_toList, Array.getElem?_toList] at h10
    exact h10

theorem PortsAt.kept {S : Nat → Prop} {w w' : World} {lo hi n : Nat} {Ps : Nat → List (Nat × Nat)} (h : PortsAt w lo hi n Ps) (hk : Keeps S w w') (hS : ∀ b, lo ≤ b → b < hi → ¬ S b) : PortsAt w' lo hi n Ps := by
  obtain ⟨hh, vals, hb, hlh, hs, hv⟩ := h
  refine ⟨Nat.le_trans hh hk.size, vals, hb.kept hk (hS lo (Nat.le_refl _) hlh), hlh, hs, fun p hp => ?_⟩
  obtain ⟨a, c, h1, h2⟩ := hv p hp
  refine ⟨a, c, h1, ?_⟩
  rcases h2 with h2 | ⟨g, h3, h4, h5, cs, t, h6, h7⟩
  · exact .inl h2
  · exact .inr ⟨g, h3, h4, h5, cs, t, h6.kept hk (hS g h4 h5), h7⟩

theorem PortsAt.row {w : World} {lo hi n : Nat} {Ps : Nat → List (Nat × Nat)} (h : PortsAt w lo hi n Ps) {p : Nat} (hp : p < n) : ∃ a c, w.cell? ⟨lo, p, none⟩ = some (.slice a (Ps p).length c) ∧
    (Ps p = [] ∨ ∃ g, a = some ⟨g, 0, none⟩ ∧ lo ≤ g ∧ g < hi ∧ ∀ k, k < (Ps p).length → w.cell? ⟨g, k * 2, none⟩ = some (.int .i64 ((Ps p).getD k (0, 0)).1) ∧ w.cell? ⟨g, k * 2 + 1, none⟩ = some (.int .i64 ((Ps p).getD k (0, 0)).2)) := by
  obtain ⟨hh, vals, hb, hlh, hs, hv⟩ := h
  obtain ⟨a, c, h1, h2⟩ := hv p hp
  refine ⟨a, c, hb.cell h1, ?_⟩
  rcases h2 with h2 | ⟨g, h3, h4, h5, cs, t, h6, h7⟩
  · exact .inl h2
  · exact .inr ⟨g, h3, h4, h5, fun k hk => ⟨h6.cell (h7 k hk).1, h6.cell (h7 k hk).2⟩⟩
end Go.Proofs.Qxb6608983a
